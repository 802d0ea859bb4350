import JvmDerived
import JvmDerived.Pilot.@@N@@Statement
import JvmDerived.Pilot.@@N@@Code
set_option linter.unusedVariables false
set_option linter.unusedSimpArgs false
namespace Jvm.Pilot.@@N@@
open Jvm Jvm.ClassFile Sem Op Lib Jvm.Free Jvm.Stand Jvm.LawKit Jvm.RoadKit Bundle Jvm.Pilot.@@N@@.Jvm.D
def Go (p : Program) (e : Env) (below : List Frame) (s : State) (Q : Option Value → Heap → List Loc → Prop) (C S : Nat) (V : State) : Prop :=
  ∃ (U : State) (o : Outcome), Steps p.tables e below V U ∧ U.status = .running ∧ Ended U below o ∧ ∃ v L, o = .returned v ∧ Q v U.heap L ∧ FrameEnd s o U L C S
def Ga (p : Program) (e : Env) (below : List Frame) (s : State) (Q : Option Value → Heap → List Loc → Prop) (C S : Nat) (T : State) (m : MethodId) (pc : Nat) (Ls : Array Slot) (st : List Value) : Prop :=
  Go p e below s Q C S (T.setTop (mkF m pc Ls st))
abbrev Ct (l : Launch) (Z : State) (y : MethodName) (bytes : ByteArray) (maxL : Nat) (ret : Option FieldType) (ws : List Jvm.Cond) (rm : Room) (as' : Array Value) (h0 : Heap) (Q : Option Value → Heap → List Loc → Prop) : Prop :=
  MetFree l y (head1 (Jvm.Cond.code y bytes maxL ret :: ws) rm) (fun a U => a = as' ∧ Z.Warmed39 U.vm ∧ U.heap = h0) (fun _ _ _ _ _ => True) (fun _ U o U' => ∃ v L, o = .returned v ∧ Q v U'.heap L ∧ FrameEnd U o U' L rm.cells rm.slots)
section GoKit
variable {p : Program} {l : Launch} {e : Env} {R : Room} {s : State} {m : MethodId} {args : Array Value} {below : List Frame} {meth : Method} {c : Code} {T T' : State} {locs : List Loc} {cells slots : Nat} {Q : Option Value → Heap → List Loc → Prop} {C S : Nat} {Z : State} {a0 : Array Value} {h : Heap} {pc q pc' : Nat} {Ls Ls' : Array Slot} {st st' : List Value} {own : String}
theorem Ga.stp (k : ∀ t, Steps p.tables e below (T'.setTop (mkF m pc' Ls' st')) t → Steps p.tables e below (T.setTop (mkF m pc Ls st)) t) (g : Ga p e below s Q C S T' m pc' Ls' st') : Ga p e below s Q C S T m pc Ls st := by
  obtain ⟨U, o, h, r⟩ := g
  exact ⟨U, o, k _ h, r⟩
theorem own_body {y : MethodName} {bytes : ByteArray} {maxL : Nat} {ret : Option FieldType} {ws : List Jvm.Cond} {rm : Room} {h0 : Heap} {as' : Array Value} (hpl : plainFor y = true) (hef : ∀ m, entryFrame m as' maxL = mkF m 0 Ls [])
    (body : ∀ (p : Program) (e : Env) (s : State) (m : MethodId) (below : List Frame) (meth : Method) (c : Code) (T : State), p.tables.exec = Jvm.exec → c.code = bytes → c.maxLocals = maxL → Z.Warmed39 s.vm → s.vm.findClass y.cls = some m.cls → meth.name = y.name → meth.sig.returnType = ret → meth.locks = false →
      Stand p l e rm s m as' below meth c T [] 0 0 → T.heap = h0 → Ga p e below s Q rm.cells rm.slots T m 0 Ls []) : Ct l Z y bytes maxL ret ws rm as' h0 Q := by
  refine MetFree.of_bodySF hpl hisR ?_
  intro p e s m args below meth c s₁ Bd hml0 hP hK
  obtain ⟨rfl, hZ, hh⟩ := hP
  have X0 : Stand p l e rm s m args below meth c s₁ [] 0 0 := Stand.of_body Bd
  have e0 : s₁.heap = h0 := by rw [← hh, Bd.state]; rfl
  obtain ⟨U, o, g1, g2⟩ := body p e s m below meth c s₁ Bd.exec Bd.bytes hml0 hZ (findClass_of_methodNamed Bd.named) (name_of_methodNamed Bd.named Bd.method).1 Bd.returns (BodyLoose.notSynchronized Bd) X0 e0
  exact ⟨U, o, castTop (hef m) g1, g2⟩
theorem Ga.out (X : Stand p l e R s m args below meth c T locs cells slots) {v : Option Value} (hlk : meth.locks = false) (hv : meth.sig.returnType = none → v = none) (hc : cells ≤ C) (hs : slots ≤ S) (hq : Q v T.heap locs)
    (k : ∀ fs, (∀ (f : JFrame) (acts : List Action), f.method = m → f.locked = none → f.entered = [] → (doReturn e (T.setTop f) acts v).1 = T.setFrames fs) → Steps p.tables e below (T.setTop (mkF m pc Ls st)) (T.setFrames fs)) : Ga p e below s Q C S T m pc Ls st := by
  obtain ⟨fs, hr, hrun, hended, hW, hsame⟩ := X.leave (v := v) hv hlk
  exact ⟨_, _, k fs hr, hrun, hended, _, _, rfl, hq, ⟨_, rfl⟩, hW, hsame.mono hc hs⟩
theorem g_iloadN (X : Stand p l e R s m args below meth c T locs cells slots) (hx : p.tables.exec = Jvm.exec) {k : Fin 4} {v : Int32} (hd : decode c.code pc = .ok (.iload_n k, 1)) (hp : pc + 1 = q) (hl : Ls[k.val]? = some (.val (.int v))) (g : Ga p e below s Q C S T m q Ls (.int v :: st)) : Ga p e below s Q C S T m pc Ls st := by
  subst hp
  exact Ga.stp (fun _ k => XS.iloadN X.here hx rfl hd hl k) g
theorem g_iload (X : Stand p l e R s m args below meth c T locs cells slots) (hx : p.tables.exec = Jvm.exec) {k : Nat} {v : Int32} (hd : decode c.code pc = .ok (.iload k, 2)) (hp : pc + 2 = q) (hl : Ls[k]? = some (.val (.int v))) (g : Ga p e below s Q C S T m q Ls (.int v :: st)) : Ga p e below s Q C S T m pc Ls st := by
  subst hp
  exact Ga.stp (fun _ k => XS.iload X.here hx rfl hd hl k) g
theorem g_lload (X : Stand p l e R s m args below meth c T locs cells slots) (hx : p.tables.exec = Jvm.exec) {k : Nat} {v : Int64} (hd : decode c.code pc = .ok (.lload k, 2)) (hp : pc + 2 = q) (hl : Ls[k]? = some (.val (.long v))) (g : Ga p e below s Q C S T m q Ls (.long v :: st)) : Ga p e below s Q C S T m pc Ls st := by
  subst hp
  exact Ga.stp (fun _ k => XS.lload X.here hx rfl hd hl k) g
theorem g_aloadN (X : Stand p l e R s m args below meth c T locs cells slots) (hx : p.tables.exec = Jvm.exec) {k : Fin 4} {v : Value} (hd : decode c.code pc = .ok (.aload_n k, 1)) (hp : pc + 1 = q) (hl : Ls[k.val]? = some (.val v)) (hv : v.isRef = true) (g : Ga p e below s Q C S T m q Ls (v :: st)) : Ga p e below s Q C S T m pc Ls st := by
  subst hp
  exact Ga.stp (fun _ k => XS.aloadN X.here hx rfl hd hl hv k) g
theorem g_aload (X : Stand p l e R s m args below meth c T locs cells slots) (hx : p.tables.exec = Jvm.exec) {k : Nat} {v : Value} (hd : decode c.code pc = .ok (.aload k, 2)) (hp : pc + 2 = q) (hl : Ls[k]? = some (.val v)) (hv : v.isRef = true) (g : Ga p e below s Q C S T m q Ls (v :: st)) : Ga p e below s Q C S T m pc Ls st := by
  subst hp
  exact Ga.stp (fun _ k => XS.aload X.here hx rfl hd hl hv k) g
theorem g_istoreN (X : Stand p l e R s m args below meth c T locs cells slots) (hx : p.tables.exec = Jvm.exec) {k : Fin 4} {x : Int32} (hd : decode c.code pc = .ok (.istore_n k, 1)) (hp : pc + 1 = q) (hl : storeLocals Ls k.val (.int x) = some Ls') (g : Ga p e below s Q C S T m q Ls' st) : Ga p e below s Q C S T m pc Ls (.int x :: st) := by
  subst hp
  exact Ga.stp (fun _ k => XS.istoreN X.here hx rfl hd rfl hl k) g
theorem g_istore (X : Stand p l e R s m args below meth c T locs cells slots) (hx : p.tables.exec = Jvm.exec) {k : Nat} {x : Int32} (hd : decode c.code pc = .ok (.istore k, 2)) (hp : pc + 2 = q) (hl : storeLocals Ls k (.int x) = some Ls') (g : Ga p e below s Q C S T m q Ls' st) : Ga p e below s Q C S T m pc Ls (.int x :: st) := by
  subst hp
  exact Ga.stp (fun _ k => XS.istore X.here hx rfl hd rfl hl k) g
theorem g_astoreN (X : Stand p l e R s m args below meth c T locs cells slots) (hx : p.tables.exec = Jvm.exec) {k : Fin 4} {x : Value} (hd : decode c.code pc = .ok (.astore_n k, 1)) (hp : pc + 1 = q) (hv : x.isRef = true) (hl : storeLocals Ls k.val x = some Ls') (g : Ga p e below s Q C S T m q Ls' st) : Ga p e below s Q C S T m pc Ls (x :: st) := by
  subst hp
  exact Ga.stp (fun _ k => XS.astoreN X.here hx rfl hd rfl hv hl k) g
theorem g_astore (X : Stand p l e R s m args below meth c T locs cells slots) (hx : p.tables.exec = Jvm.exec) {k : Nat} {x : Value} (hd : decode c.code pc = .ok (.astore k, 2)) (hp : pc + 2 = q) (hv : x.isRef = true) (hl : storeLocals Ls k x = some Ls') (g : Ga p e below s Q C S T m q Ls' st) : Ga p e below s Q C S T m pc Ls (x :: st) := by
  subst hp
  exact Ga.stp (fun _ k => XS.astore X.here hx rfl hd rfl hv hl k) g
theorem g_iconst (X : Stand p l e R s m args below meth c T locs cells slots) (hx : p.tables.exec = Jvm.exec) {i : Int} {r : Int32} (hd : decode c.code pc = .ok (.iconst i, 1)) (hp : pc + 1 = q) (hr : Int32.ofInt i = r) (g : Ga p e below s Q C S T m q Ls (.int r :: st)) : Ga p e below s Q C S T m pc Ls st := by
  subst hp hr
  exact Ga.stp (fun _ k => XS.iconst X.here hx rfl hd k) g
theorem g_bipush (X : Stand p l e R s m args below meth c T locs cells slots) (hx : p.tables.exec = Jvm.exec) {i : Int} {r : Int32} (hd : decode c.code pc = .ok (.bipush i, 2)) (hp : pc + 2 = q) (hr : (Int8.ofInt i).toInt32 = r) (g : Ga p e below s Q C S T m q Ls (.int r :: st)) : Ga p e below s Q C S T m pc Ls st := by
  subst hp hr
  exact Ga.stp (fun _ k => XS.bipush X.here hx rfl hd k) g
theorem g_iadd (X : Stand p l e R s m args below meth c T locs cells slots) (hx : p.tables.exec = Jvm.exec) {x y r : Int32} (hd : decode c.code pc = .ok (.iadd, 1)) (hp : pc + 1 = q) (hr : x + y = r) (g : Ga p e below s Q C S T m q Ls (.int r :: st)) : Ga p e below s Q C S T m pc Ls (.int y :: .int x :: st) := by
  subst hp hr
  exact Ga.stp (fun _ k => XS.iadd X.here hx rfl hd rfl k) g
theorem g_isub (X : Stand p l e R s m args below meth c T locs cells slots) (hx : p.tables.exec = Jvm.exec) {x y r : Int32} (hd : decode c.code pc = .ok (.isub, 1)) (hp : pc + 1 = q) (hr : x - y = r) (g : Ga p e below s Q C S T m q Ls (.int r :: st)) : Ga p e below s Q C S T m pc Ls (.int y :: .int x :: st) := by
  subst hp hr
  exact Ga.stp (fun _ k => XS.isub X.here hx rfl hd rfl k) g
theorem g_imul (X : Stand p l e R s m args below meth c T locs cells slots) (hx : p.tables.exec = Jvm.exec) {x y r : Int32} (hd : decode c.code pc = .ok (.imul, 1)) (hp : pc + 1 = q) (hr : x * y = r) (g : Ga p e below s Q C S T m q Ls (.int r :: st)) : Ga p e below s Q C S T m pc Ls (.int y :: .int x :: st) := by
  subst hp hr
  exact Ga.stp (fun _ k => XS.imul X.here hx rfl hd rfl k) g
theorem g_iand (X : Stand p l e R s m args below meth c T locs cells slots) (hx : p.tables.exec = Jvm.exec) {x y r : Int32} (hd : decode c.code pc = .ok (.iand, 1)) (hp : pc + 1 = q) (hr : x &&& y = r) (g : Ga p e below s Q C S T m q Ls (.int r :: st)) : Ga p e below s Q C S T m pc Ls (.int y :: .int x :: st) := by
  subst hp hr
  exact Ga.stp (fun _ k => XS.iand X.here hx rfl hd rfl k) g
theorem g_iushr (X : Stand p l e R s m args below meth c T locs cells slots) (hx : p.tables.exec = Jvm.exec) {x y r : Int32} (hd : decode c.code pc = .ok (.iushr, 1)) (hp : pc + 1 = q) (hr : (x.toUInt32 >>> (y &&& 31).toUInt32).toInt32 = r) (g : Ga p e below s Q C S T m q Ls (.int r :: st)) : Ga p e below s Q C S T m pc Ls (.int y :: .int x :: st) := by
  subst hp hr
  exact Ga.stp (fun _ k => XS.iushr X.here hx rfl hd rfl k) g
theorem g_land (X : Stand p l e R s m args below meth c T locs cells slots) (hx : p.tables.exec = Jvm.exec) {x y r : Int64} (hd : decode c.code pc = .ok (.land, 1)) (hp : pc + 1 = q) (hr : x &&& y = r) (g : Ga p e below s Q C S T m q Ls (.long r :: st)) : Ga p e below s Q C S T m pc Ls (.long y :: .long x :: st) := by
  subst hp hr
  exact Ga.stp (fun _ k => XS.land X.here hx rfl hd rfl k) g
theorem g_lushr (X : Stand p l e R s m args below meth c T locs cells slots) (hx : p.tables.exec = Jvm.exec) {x r : Int64} {y : Int32} (hd : decode c.code pc = .ok (.lushr, 1)) (hp : pc + 1 = q) (hr : (x.toUInt64 >>> (y &&& 0x3f).toInt64.toUInt64).toInt64 = r) (g : Ga p e below s Q C S T m q Ls (.long r :: st)) : Ga p e below s Q C S T m pc Ls (.int y :: .long x :: st) := by
  subst hp hr
  exact Ga.stp (fun _ k => XS.lushr X.here hx rfl hd rfl k) g
theorem g_irem (X : Stand p l e R s m args below meth c T locs cells slots) (hx : p.tables.exec = Jvm.exec) {x y r : Int32} (hd : decode c.code pc = .ok (.irem, 1)) (hp : pc + 1 = q) (hy : y ≠ 0) (hr : x % y = r) (g : Ga p e below s Q C S T m q Ls (.int r :: st)) : Ga p e below s Q C S T m pc Ls (.int y :: .int x :: st) := by
  subst hp hr
  exact Ga.stp (fun _ k => iremM X hx (g := mkF m pc Ls (.int y :: .int x :: st)) rfl hd rfl hy k) g
theorem g_lrem (X : Stand p l e R s m args below meth c T locs cells slots) (hx : p.tables.exec = Jvm.exec) {x y r : Int64} (hd : decode c.code pc = .ok (.lrem, 1)) (hp : pc + 1 = q) (hy : y ≠ 0) (hr : x % y = r) (g : Ga p e below s Q C S T m q Ls (.long r :: st)) : Ga p e below s Q C S T m pc Ls (.long y :: .long x :: st) := by
  subst hp hr
  rw [← lrem_mod] at g
  exact Ga.stp (fun _ k => XS.lrem X.here hx rfl hd rfl hy k) g
theorem g_i2b (X : Stand p l e R s m args below meth c T locs cells slots) (hx : p.tables.exec = Jvm.exec) {x : Int32} {r : Int32} (hd : decode c.code pc = .ok (.i2b, 1)) (hp : pc + 1 = q) (hr : x.toInt8.toInt32 = r) (g : Ga p e below s Q C S T m q Ls (.int r :: st)) : Ga p e below s Q C S T m pc Ls (.int x :: st) := by
  subst hp hr
  exact Ga.stp (fun _ k => XS.i2b X.here hx rfl hd rfl k) g
theorem g_i2l (X : Stand p l e R s m args below meth c T locs cells slots) (hx : p.tables.exec = Jvm.exec) {x : Int32} {r : Int64} (hd : decode c.code pc = .ok (.i2l, 1)) (hp : pc + 1 = q) (hr : x.toInt64 = r) (g : Ga p e below s Q C S T m q Ls (.long r :: st)) : Ga p e below s Q C S T m pc Ls (.int x :: st) := by
  subst hp hr
  exact Ga.stp (fun _ k => XS.i2l X.here hx rfl hd rfl k) g
theorem g_l2i (X : Stand p l e R s m args below meth c T locs cells slots) (hx : p.tables.exec = Jvm.exec) {x : Int64} {r : Int32} (hd : decode c.code pc = .ok (.l2i, 1)) (hp : pc + 1 = q) (hr : x.toInt32 = r) (g : Ga p e below s Q C S T m q Ls (.int r :: st)) : Ga p e below s Q C S T m pc Ls (.long x :: st) := by
  subst hp hr
  exact Ga.stp (fun _ k => XS.l2i X.here hx rfl hd rfl k) g
theorem g_dup (X : Stand p l e R s m args below meth c T locs cells slots) (hx : p.tables.exec = Jvm.exec) {x : Value} (hd : decode c.code pc = .ok (.dup, 1)) (hp : pc + 1 = q) (hc : x.category = 1) (g : Ga p e below s Q C S T m q Ls (x :: x :: st)) : Ga p e below s Q C S T m pc Ls (x :: st) := by
  subst hp
  exact Ga.stp (fun _ k => XS.dup X.here hx rfl hd rfl hc k) g
theorem g_dup_x1 (X : Stand p l e R s m args below meth c T locs cells slots) (hx : p.tables.exec = Jvm.exec) {x y : Value} (hd : decode c.code pc = .ok (.dup_x1, 1)) (hp : pc + 1 = q) (hc : x.category = 1) (hc' : y.category = 1) (g : Ga p e below s Q C S T m q Ls (x :: y :: x :: st)) : Ga p e below s Q C S T m pc Ls (x :: y :: st) := by
  subst hp
  exact Ga.stp (fun _ k => XS.dupX1 X.here hx rfl hd rfl hc hc' k) g
theorem g_iinc (X : Stand p l e R s m args below meth c T locs cells slots) (hx : p.tables.exec = Jvm.exec) {k : Nat} {cst : Int} {x r : Int32} (hd : decode c.code pc = .ok (.iinc k cst, 3)) (hp : pc + 3 = q) (hl : Ls[k]? = some (.val (.int x))) (hr : x + Int32.ofInt cst = r) (hl' : storeLocals Ls k (.int r) = some Ls') (g : Ga p e below s Q C S T m q Ls' st) : Ga p e below s Q C S T m pc Ls st := by
  subst hp hr
  exact Ga.stp (fun _ k => XS.iinc X.here hx rfl hd hl hl' k) g
theorem g_goto (X : Stand p l e R s m args below meth c T locs cells slots) (hx : p.tables.exec = Jvm.exec) {o : Int} (hd : decode c.code pc = .ok (.goto o, 3)) (ho : 0 ≤ (pc : Int) + o) (hp : ((pc : Int) + o).toNat = q) (g : Ga p e below s Q C S T m q Ls st) : Ga p e below s Q C S T m pc Ls st :=
  Ga.stp (fun _ k => XS.goto X.here hx rfl rfl hd ho hp k) g
theorem g_ifY (X : Stand p l e R s m args below meth c T locs cells slots) (hx : p.tables.exec = Jvm.exec) {cd : ClassFile.Cond} {x : Int32} {o : Int} (hd : decode c.code pc = .ok (.ifCond cd o, 3)) (hc : ifCond.holds cd x = true) (ho : 0 ≤ (pc : Int) + o) (hp : ((pc : Int) + o).toNat = q) (g : Ga p e below s Q C S T m q Ls st) : Ga p e below s Q C S T m pc Ls (.int x :: st) :=
  Ga.stp (fun _ k => XS.ifYes X.here hx rfl rfl hd rfl hc ho hp k) g
theorem g_ifN (X : Stand p l e R s m args below meth c T locs cells slots) (hx : p.tables.exec = Jvm.exec) {cd : ClassFile.Cond} {x : Int32} {o : Int} (hd : decode c.code pc = .ok (.ifCond cd o, 3)) (hp : pc + 3 = q) (hc : ifCond.holds cd x = false) (g : Ga p e below s Q C S T m q Ls st) : Ga p e below s Q C S T m pc Ls (.int x :: st) := by
  subst hp
  exact Ga.stp (fun _ k => XS.ifNo X.here hx rfl hd rfl hc k) g
theorem g_icmpY (X : Stand p l e R s m args below meth c T locs cells slots) (hx : p.tables.exec = Jvm.exec) {cd : ClassFile.Cond} {x y : Int32} {o : Int} (hd : decode c.code pc = .ok (.if_icmp cd o, 3)) (hc : if_icmp.holds cd x y = true) (ho : 0 ≤ (pc : Int) + o) (hp : ((pc : Int) + o).toNat = q) (g : Ga p e below s Q C S T m q Ls st) : Ga p e below s Q C S T m pc Ls (.int y :: .int x :: st) :=
  Ga.stp (fun _ k => XS.icmpYes X.here hx rfl rfl hd rfl hc ho hp k) g
theorem g_icmpN (X : Stand p l e R s m args below meth c T locs cells slots) (hx : p.tables.exec = Jvm.exec) {cd : ClassFile.Cond} {x y : Int32} {o : Int} (hd : decode c.code pc = .ok (.if_icmp cd o, 3)) (hp : pc + 3 = q) (hc : if_icmp.holds cd x y = false) (g : Ga p e below s Q C S T m q Ls st) : Ga p e below s Q C S T m pc Ls (.int y :: .int x :: st) := by
  subst hp
  exact Ga.stp (fun _ k => XS.icmpNo X.here hx rfl hd rfl hc k) g
theorem g_acmp (X : Stand p l e R s m args below meth c T locs cells slots) (hx : p.tables.exec = Jvm.exec) {cd : ClassFile.ACond} {x y : Value} {o : Int} {same : Bool} (hd : decode c.code pc = .ok (.if_acmp cd o, 3)) (h1 : x.isRef = true) (h2 : y.isRef = true) (hq : decide (x = y) = same) (ho : 0 ≤ (pc : Int) + o) (hp : q = if acV cd same = true then ((pc : Int) + o).toNat else pc + 3) (g : Ga p e below s Q C S T m q Ls st) : Ga p e below s Q C S T m pc Ls (y :: x :: st) :=
  Ga.stp (fun _ k => Jvm.RoadKit.acmp (g := mkF m pc Ls (y :: x :: st)) X hx rfl h1 h2 rfl hd rfl hq ho hp k) g
theorem g_retI (X : Stand p l e R s m args below meth c T locs cells slots) (hx : p.tables.exec = Jvm.exec) {z : Int32} (hret : meth.sig.returnType = some .int) (hlk : meth.locks = false) (hd : decode c.code pc = .ok (.ireturn, 1)) (hc : cells ≤ C) (hs : slots ≤ S) (hq : Q (some (.int z)) T.heap locs) : Ga p e below s Q C S T m pc Ls (.int z :: st) :=
  Ga.out X hlk (fun h => by rw [hret] at h; cases h) hc hs hq fun fs hr => retOut X hx hret rfl (Or.inl ⟨rfl, Or.inl rfl, z, rfl⟩) hd hr
theorem g_retN (X : Stand p l e R s m args below meth c T locs cells slots) (hx : p.tables.exec = Jvm.exec) {z r : Int32} {t : FieldType} (hret : meth.sig.returnType = some t) (ht : t = .boolean ∨ t = .byte ∨ t = .char ∨ t = .short) (hlk : meth.locks = false) (hd : decode c.code pc = .ok (.ireturn, 1)) (hr : nar t z = r) (hc : cells ≤ C) (hs : slots ≤ S) (hq : Q (some (.int r)) T.heap locs) : Ga p e below s Q C S T m pc Ls (.int z :: st) := by
  subst hr
  exact Ga.out X hlk (fun h => by rw [hret] at h; cases h) hc hs hq fun fs hr => retN X hx hret ht hd hr
theorem g_retR (X : Stand p l e R s m args below meth c T locs cells slots) (hx : p.tables.exec = Jvm.exec) {w : Value} {t : FieldType} (hret : meth.sig.returnType = some t) (hlk : meth.locks = false) (ht : t.isReference = true) (hn : narrow t w = w) (hw : w.isRef = true) (hd : decode c.code pc = .ok (.areturn, 1)) (hc : cells ≤ C) (hs : slots ≤ S) (hq : Q (some w) T.heap locs) : Ga p e below s Q C S T m pc Ls (w :: st) :=
  Ga.out X hlk (fun h => by rw [hret] at h; cases h) hc hs hq fun fs hr => retOut X hx hret hn (Or.inr (Or.inr (Or.inr (Or.inr ⟨rfl, ht, hw⟩)))) hd hr
theorem g_ret (X : Stand p l e R s m args below meth c T locs cells slots) (hx : p.tables.exec = Jvm.exec) (hret : meth.sig.returnType = none) (hlk : meth.locks = false) (hd : decode c.code pc = .ok (.return_, 1)) (hc : cells ≤ C) (hs : slots ≤ S) (hq : Q none T.heap locs) : Ga p e below s Q C S T m pc Ls [] :=
  Ga.out X hlk (fun _ => rfl) hc hs hq fun fs hr => X.returnOut hx hret hd hr
theorem g_ldc2 (X : Stand p l e R s m args below meth c T locs cells slots) (hx : p.tables.exec = Jvm.exec) (hZ : Z.Warmed39 s.vm) (hown : s.vm.findClass own = some m.cls) {index : Nat} {v : Int64} (w : (Cond.constantLong own index v).before a0 Z = true) (hd : decode c.code pc = .ok (.ldc2_w index, 3)) (hp : pc + 3 = q) (g : Ga p e below s Q C S T m q Ls (.long v :: st)) : Ga p e below s Q C S T m pc Ls st := by
  subst hp
  exact Ga.stp (fun t k => X.ldc2Long hx hown (mvT hZ w) (g := mkF m pc Ls st) rfl hd t k) g
theorem g_new (X : Stand p l e R s m args below meth c T locs cells slots) (hx : p.tables.exec = Jvm.exec) (hZ : Z.Warmed39 s.vm) (hown : s.vm.findClass own = some m.cls) {K : String} {index n : Nat} (w : (Cond.classLink own index K).before a0 Z = true) (wi : (Cond.instantiable K n).before a0 Z = true) (wz : (Cond.initialized K).before a0 Z = true) (eT : T.heap = h)
    (hd : decode c.code pc = .ok (.new index, 3)) (hp : pc + 3 = q) (hc : cells + 1 ≤ R.cells) (hl : slots + n ≤ R.slots)
    (k : ∀ T' h' b, Stand p l e R s m args below meth c T' locs (cells + 1) (slots + n) → T'.heap = h' → b = h.size → Ext h h' → Exa Z h' b K → (∀ {O nm d : String} {ty : FieldType}, Laid Z a0 K O nm d → parseFieldDescriptor d = some ty → Fld Z h' b O nm d (defaultValue ty)) → Ga p e below s Q C S T' m q Ls (.ref b :: st)) : Ga p e below s Q C S T m pc Ls st := by
  subst hp
  obtain ⟨T', h', X', e', E', A', D', -, sx⟩ := newO X hx hZ hown w wi wz eT (g := mkF m pc Ls st) rfl hd hc hl
  exact Ga.stp sx (k T' h' _ X' e' rfl E' A' D')
theorem g_getF (X : Stand p l e R s m args below meth c T locs cells slots) (hx : p.tables.exec = Jvm.exec) (hZ : Z.Warmed39 s.vm) (hown : s.vm.findClass own = some m.cls) {R0 O n d host : String} {index : Nat} (w : (Cond.fieldLink own index R0 n d).before a0 Z = true ∨ (Cond.fieldLinkNest own index R0 n d host).before a0 Z = true) (via : Via Z R0 O n d) (eT : T.heap = h) {a : Addr} {v : Value} (F : Fld Z h a O n d v)
    (hd : decode c.code pc = .ok (.getfield index, 3)) (hp : pc + 3 = q) (k : ∀ T', Stand p l e R s m args below meth c T' locs cells slots → T'.heap = h → Ga p e below s Q C S T' m q Ls (v :: st)) : Ga p e below s Q C S T m pc Ls (.ref a :: st) := by
  subst hp
  obtain ⟨T', X', e', sx⟩ := getF X hx hZ hown w via eT F (g := mkF m pc Ls (.ref a :: st)) rfl rfl hd
  exact Ga.stp sx (k T' X' e')
theorem g_cast (X : Stand p l e R s m args below meth c T locs cells slots) (hx : p.tables.exec = Jvm.exec) (hZ : Z.Warmed39 s.vm) (hown : s.vm.findClass own = some m.cls) {K : String} {index : Nat} (w : (Cond.classLink own index K).before a0 Z = true) (eT : T.heap = h) {a : Addr} (F : Ins Z h a K true)
    (hd : decode c.code pc = .ok (.checkcast index, 3)) (hp : pc + 3 = q) (k : ∀ T', Stand p l e R s m args below meth c T' locs cells slots → T'.heap = h → Ga p e below s Q C S T' m q Ls (.ref a :: st)) : Ga p e below s Q C S T m pc Ls (.ref a :: st) := by
  subst hp
  obtain ⟨T', X', e', sx⟩ := castY X hx hZ hown w eT F (g := mkF m pc Ls (.ref a :: st)) rfl rfl hd
  exact Ga.stp sx (k T' X' e')
theorem g_putF (X : Stand p l e R s m args below meth c T locs cells slots) (hx : p.tables.exec = Jvm.exec) (hZ : Z.Warmed39 s.vm) (hown : s.vm.findClass own = some m.cls) {R0 O n d host K : String} {index kk : Nat} {ty : FieldType} (w : (Cond.fieldLink own index R0 n d).before a0 Z = true ∨ (Cond.fieldLinkNest own index R0 n d host).before a0 Z = true) (via : Via Z R0 O n d) (eT : T.heap = h) {a : Addr} {v old : Value} (F : Fld Z h a O n d old) (E : Exa Z h a K)
    (L : (Cond.lays K O n d).before a0 Z = true ∨ ((Cond.laysFinal K O n d).before a0 Z = true ∧ own = O ∧ meth.name = "<init>")) (wi : (Cond.instantiable K kk).before a0 Z = true) (hty : parseFieldDescriptor d = some ty) (hn : narrow ty v = v) (hf : fits ty v = true)
    (hd : decode c.code pc = .ok (.putfield index, 3)) (hp : pc + 3 = q) (k : ∀ T' h', Stand p l e R s m args below meth c T' (locs ++ [⟨a, Jvm.RoadKit.slotOf Z O n d⟩]) cells slots → T'.heap = h' → Wr h h' a (Jvm.RoadKit.slotOf Z O n d) v → Fld Z h' a O n d v → Ga p e below s Q C S T' m q Ls st) : Ga p e below s Q C S T m pc Ls (v :: .ref a :: st) := by
  subst hp
  obtain ⟨T', h', X', e', W', sx⟩ := putF X hx hZ hown w via eT F E L wi hty hn hf (g := mkF m pc Ls (v :: .ref a :: st)) rfl rfl hd
  exact Ga.stp sx (k T' h' X' e' W' (F.same W'))
theorem g_initO (X : Stand p l e R s m args below meth c T locs cells slots) (hx : p.tables.exec = Jvm.exec) (hZ : Z.Warmed39 s.vm) (hown : s.vm.findClass own = some m.cls) {idx : Nat} (w1 : (Cond.methodLink own idx Lib.objectInit).before a0 Z = true) (w2 : (Cond.instanceMethod Lib.objectInit).before a0 Z = true) (w3 : (Cond.code Lib.objectInit ⟨#[0xb1]⟩ 1 none).before a0 Z = true) (eT : T.heap = h) (hsz : Ls.size = c.maxLocals) {a : Addr}
    (hd : decode c.code pc = .ok (.invokespecial idx, 3)) (hp : pc + 3 = q) (hf : 1 ≤ R.frames) {W : Nat} (hW : (st.map fun v => v.category).sum ≤ W) (hl : W + 12 ≤ R.locals) (k : ∀ T', Stand p l e R s m args below meth c T' locs cells slots → T'.heap = h → Ga p e below s Q C S T' m q Ls st) : Ga p e below s Q C S T m pc Ls (.ref a :: st) := by
  subst hp
  obtain ⟨T', X', e', sx⟩ := initO X hx hZ hown w1 w2 w3 eT (g := mkF m pc Ls (.ref a :: st)) rfl hsz rfl hd hf (W := W) (by show 2 * 0 + _ ≤ _; omega) hl
  exact Ga.stp sx (k T' X' e')
theorem g_static (X : Stand p l e R s m args below meth c T locs cells slots) (hx : p.tables.exec = Jvm.exec) (hZ : Z.Warmed39 s.vm) (hown : s.vm.findClass own = some m.cls) {index : Nat} {y : MethodName} {ret : Option FieldType} {bytes : ByteArray} {maxL : Nat} {rm : Room} {as' : Array Value} {Q' : Option Value → Heap → List Loc → Prop} (w1 : (Cond.methodLink own index y).before a0 Z = true) (w2 : (Cond.static y).before a0 Z = true) (w3 : (Cond.initialized y.cls).before a0 Z = true) (w4 : (Cond.code y bytes maxL ret).before a0 Z = true) (hy : y.cls ≠ "java/lang/invoke/MethodHandle" ∧ y.cls ≠ "java/lang/invoke/VarHandle")
    (hM : Ct l Z y bytes maxL ret [] rm as' h Q') (hsz : Ls.size = c.maxLocals) (eT : T.heap = h) (argsL : List Value) {rest : List Value} (has : as' = argsL.toArray) (hst : st = argsL.reverse ++ rest) {W : Nat} (hW : (rest.map fun v => v.category).sum ≤ W) (hf : rm.frames + 1 ≤ R.frames) (hl : W + (maxL + 11) + rm.locals ≤ R.locals) (hcl : cells + rm.cells ≤ R.cells) (hsl : slots + rm.slots ≤ R.slots) (hlen : ∀ sig, parseMethodDescriptor y.desc = some sig → argsL.length = sig.parameters.length) (hd : decode c.code pc = .ok (.invokestatic index, 3)) (hp : pc + 3 = q) (k : ∀ v T' L, Stand p l e R s m args below meth c T' (locs ++ L) (cells + rm.cells) (slots + rm.slots) → Q' v T'.heap L → Ga p e below s Q C S T' m q Ls (v.toList ++ rest)) : Ga p e below s Q C S T m pc Ls st := by
  subst hp has hst
  obtain ⟨_, _, ⟨T', L', k', n'⟩, -, X', ⟨Lc, hQ', l1, y1, z1⟩, sx⟩ := Jvm.LawKit.callS X hx (y := y) hown (mvT hZ w1) (mvT hZ w2) (mvT hZ w3) (mvT hZ w4) hy (backOf (W := W) hM hZ w4 w3 hf hl) (g := mkF m pc Ls (argsL.reverse ++ rest)) rfl hsz (argsL := argsL) (rest := rest) hlen rfl (by show 2 * 0 + _ ≤ _; omega) hd (fun _ _ => ⟨rfl, eT, hcl, hsl⟩)
  dsimp only [Pt.U, Pt.locs, Pt.cells, Pt.slots] at X' l1 y1 z1 sx hQ'
  subst l1 y1 z1
  exact Ga.stp sx (k _ T' Lc X' hQ')
theorem g_special (X : Stand p l e R s m args below meth c T locs cells slots) (hx : p.tables.exec = Jvm.exec) (hZ : Z.Warmed39 s.vm) (hown : s.vm.findClass own = some m.cls) {index : Nat} {y : MethodName} {bytes : ByteArray} {maxL : Nat} {rm : Room} {as' : Array Value} {Q' : Option Value → Heap → List Loc → Prop} (hy1 : y.name = "<init>") (w1 : (Cond.methodLink own index y).before a0 Z = true) (w2 : (Cond.instanceMethod y).before a0 Z = true) (w3 : (Cond.initialized y.cls).before a0 Z = true) (w4 : (Cond.code y bytes maxL none).before a0 Z = true) (hy : y.cls ≠ "java/lang/invoke/MethodHandle" ∧ y.cls ≠ "java/lang/invoke/VarHandle") {a : Addr}
    (hM : Ct l Z y bytes maxL none [] rm as' h Q') (hsz : Ls.size = c.maxLocals) (eT : T.heap = h) (argsL : List Value) {rest : List Value} (has : as' = (.ref a :: argsL).toArray) (hst : st = argsL.reverse ++ .ref a :: rest) {W : Nat} (hW : (rest.map fun v => v.category).sum ≤ W) (hf : rm.frames + 1 ≤ R.frames) (hl : W + (maxL + 11) + rm.locals ≤ R.locals) (hcl : cells + rm.cells ≤ R.cells) (hsl : slots + rm.slots ≤ R.slots) (hlen : ∀ sig, parseMethodDescriptor y.desc = some sig → argsL.length = sig.parameters.length) (hd : decode c.code pc = .ok (.invokespecial index, 3)) (hp : pc + 3 = q) (k : ∀ v T' L, Stand p l e R s m args below meth c T' (locs ++ L) (cells + rm.cells) (slots + rm.slots) → Q' v T'.heap L → Ga p e below s Q C S T' m q Ls (v.toList ++ rest)) : Ga p e below s Q C S T m pc Ls st := by
  subst hp has hst
  obtain ⟨_, _, ⟨T', L', k', n'⟩, -, X', ⟨Lc, hQ', l1, y1, z1⟩, sx⟩ := X.specialBack hx (y := y) hy1 hown (mvT hZ w1) (mvT hZ w2) (mvT hZ w4) hy (backOf (W := W) hM hZ w4 w3 hf hl) (g := mkF m pc Ls (argsL.reverse ++ .ref a :: rest)) rfl hsz (Steps.refl _) (a := a) (argsL := argsL) (rest := rest) hlen rfl (by show 2 * 0 + _ ≤ _; omega) hd (fun _ _ => ⟨rfl, eT, hcl, hsl⟩)
  dsimp only [Pt.U, Pt.locs, Pt.cells, Pt.slots] at X' l1 y1 z1 sx hQ'
  subst l1 y1 z1
  exact Ga.stp (fun _ kk => sx.trans kk) (k _ T' Lc X' hQ')
theorem g_virtual (X : Stand p l e R s m args below meth c T locs cells slots) (hx : p.tables.exec = Jvm.exec) (hZ : Z.Warmed39 s.vm) (hown : s.vm.findClass own = some m.cls) {index : Nat} {y z : MethodName} {K : String} {ret : Option FieldType} {bytes : ByteArray} {maxL : Nat} {rm : Room} {as' : Array Value} {Q' : Option Value → Heap → List Loc → Prop} (w1 : (Cond.methodLink own index y).before a0 Z = true) (w2 : (Cond.declares y).before a0 Z = true) (nf : NotFace s y) (w3 : (Cond.selects K y z).before a0 Z = true) (w4 : (Cond.instanceMethod z).before a0 Z = true) (w5 : (Cond.initialized z.cls).before a0 Z = true) (w6 : (Cond.code z bytes maxL ret).before a0 Z = true) (hy : y.cls ≠ "java/lang/invoke/MethodHandle" ∧ y.cls ≠ "java/lang/invoke/VarHandle") {a : Addr} (E : Exa Z h a K)
    (hM : Ct l Z z bytes maxL ret [] rm as' h Q') (hsz : Ls.size = c.maxLocals) (eT : T.heap = h) (argsL : List Value) {rest : List Value} (has : as' = (.ref a :: argsL).toArray) (hst : st = argsL.reverse ++ .ref a :: rest) {W : Nat} (hW : (rest.map fun v => v.category).sum ≤ W) (hf : rm.frames + 1 ≤ R.frames) (hl : W + (maxL + 11) + rm.locals ≤ R.locals) (hcl : cells + rm.cells ≤ R.cells) (hsl : slots + rm.slots ≤ R.slots) (hlen : ∀ sig, parseMethodDescriptor y.desc = some sig → argsL.length = sig.parameters.length) (hd : decode c.code pc = .ok (.invokevirtual index, 3)) (hp : pc + 3 = q) (k : ∀ v T' L, Stand p l e R s m args below meth c T' (locs ++ L) (cells + rm.cells) (slots + rm.slots) → Q' v T'.heap L → Ga p e below s Q C S T' m q Ls (v.toList ++ rest)) : Ga p e below s Q C S T m pc Ls st := by
  subst hp has hst
  obtain ⟨cq, kq, qa, qb, qc⟩ := isOf hZ eT E
  obtain ⟨_, _, ⟨T', L', k', n'⟩, -, X', ⟨Lc, hQ', l1, y1, z1⟩, sx⟩ := X.virtualBack hx (y := y) (z := z) hown (mvT hZ w1) (mvT hZ w2) nf (mvT hZ w3) (mvT hZ w4) hy (backOf (W := W) hM hZ w6 w5 hf hl) qa qc (g := mkF m pc Ls (argsL.reverse ++ .ref a :: rest)) rfl hsz (Steps.refl _) (argsL := argsL) (rest := rest) hlen rfl (by show 2 * 0 + _ ≤ _; omega) hd (fun _ _ => ⟨rfl, eT, hcl, hsl⟩)
  dsimp only [Pt.U, Pt.locs, Pt.cells, Pt.slots] at X' l1 y1 z1 sx hQ'
  subst l1 y1 z1
  exact Ga.stp (fun _ kk => sx.trans kk) (k _ T' Lc X' hQ')
theorem g_private (X : Stand p l e R s m args below meth c T locs cells slots) (hx : p.tables.exec = Jvm.exec) (hZ : Z.Warmed39 s.vm) (hown : s.vm.findClass own = some m.cls) {index : Nat} {y : MethodName} {ret : Option FieldType} {bytes : ByteArray} {maxL : Nat} {rm : Room} {as' : Array Value} {Q' : Option Value → Heap → List Loc → Prop} (w1 : (Cond.methodLink own index y).before a0 Z = true) (w2 : (Cond.instanceMethod y).before a0 Z = true) {ki : Nat} (w3 : (Cond.instantiable y.cls ki).before a0 Z = true) (w4 : (Cond.privateMethod y).before a0 Z = true) (w5 : (Cond.initialized y.cls).before a0 Z = true) (w6 : (Cond.code y bytes maxL ret).before a0 Z = true) (hy : y.cls ≠ "java/lang/invoke/MethodHandle" ∧ y.cls ≠ "java/lang/invoke/VarHandle") {a : Addr} {K : String} (E : Exa Z h a K)
    (hM : Ct l Z y bytes maxL ret [] rm as' h Q') (hsz : Ls.size = c.maxLocals) (eT : T.heap = h) (argsL : List Value) {rest : List Value} (has : as' = (.ref a :: argsL).toArray) (hst : st = argsL.reverse ++ .ref a :: rest) {W : Nat} (hW : (rest.map fun v => v.category).sum ≤ W) (hf : rm.frames + 1 ≤ R.frames) (hl : W + (maxL + 11) + rm.locals ≤ R.locals) (hcl : cells + rm.cells ≤ R.cells) (hsl : slots + rm.slots ≤ R.slots) (hlen : ∀ sig, parseMethodDescriptor y.desc = some sig → argsL.length = sig.parameters.length) (hd : decode c.code pc = .ok (.invokevirtual index, 3)) (hp : pc + 3 = q) (k : ∀ v T' L, Stand p l e R s m args below meth c T' (locs ++ L) (cells + rm.cells) (slots + rm.slots) → Q' v T'.heap L → Ga p e below s Q C S T' m q Ls (v.toList ++ rest)) : Ga p e below s Q C S T m pc Ls st := by
  subst hp has hst
  obtain ⟨cq, qa, qb⟩ := E.cell
  have hpr : s.PrivateAt y := Cond.privateMethod_at (mvP hZ w4 (args := #[]))
  obtain ⟨ci, kc, i1, i2, -, i4, -⟩ := Cond.instantiable_spec (mvT (args := args) hZ w3)
  have hni : kc.isInterface = false := by rcases Bool.eq_false_or_eq_true kc.isInterface with q | q <;> simp [q] at i4 ⊢
  have hsel := selects_self_of_private (args := args) i1 i2 hni hpr (mvT hZ w2) hy
  obtain ⟨_, _, ⟨T', L', k', n'⟩, -, X', ⟨Lc, hQ', l1, y1, z1⟩, sx⟩ := X.privateBack hx (y := y) hown (mvT hZ w1) (mvT hZ w2) hsel hpr (mvT hZ w6) hy (backOf (W := W) hM hZ w6 w5 hf hl) (g := mkF m pc Ls (argsL.reverse ++ .ref a :: rest)) rfl hsz (Steps.refl _) (a := a) (by rw [eT]; exact qa) qb (argsL := argsL) (rest := rest) hlen rfl (by show 2 * 0 + _ ≤ _; omega) hd (fun _ _ => ⟨rfl, eT, hcl, hsl⟩)
  dsimp only [Pt.U, Pt.locs, Pt.cells, Pt.slots] at X' l1 y1 z1 sx hQ'
  subst l1 y1 z1
  exact Ga.stp (fun _ kk => sx.trans kk) (k _ T' Lc X' hQ')
theorem own_linkFF {args : Array Value} {s : State} {cls : String} {x : MethodName} {index d c : Nat} {ck ok : Class} {meth : Method} {mf : MethodId} (hd : s.vm.findClass cls = some d) (hc : s.vm.findClass x.cls = some c) (hck : s.vm.classes[c]? = some ck) (hvi : ck.isInterface = true) (hnone : ck.findMethod x.name x.desc = none)
    (hf : s.methodFound? x.cls x.name x.desc = some mf) (hok : s.vm.classes[mf.cls]? = some ok) (hm : ok.methods[mf.idx]? = some meth) (hcl : x.name ≠ "clone") (hpoly : ∀ y, signaturePolymorphic ck y = false) (h : (Jvm.Cond.methodLink cls index x).before args s = true) (pl : Platform) (hpl : pl.magicAccessors = ({} : Platform).magicAccessors) :
    ∃ ci, s.vm.MethodLinksFF pl d index ci c mf ∧ s.rightAt d index (.method mf) = true := by
  have hmeth : s.vm.method? mf = some meth := by simp [Vm.method?, hok, hm]
  have hv := Cond.before_iff.mp h
  simp only [Cond.value, hd, hc, hf] at hv
  split at hv
  case h_2 => cases hv
  rename_i ci via d' c' m' e1 e2 e3 e4
  cases e2; cases e3; cases e4
  simp only [Option.bind_eq_bind, Option.bind_eq_some_iff, Option.pure_def, Option.some.injEq, hck, hok, hmeth] at hv
  obtain ⟨li, l1, dk, hdk, _, rfl, _, rfl, _, rfl, hb⟩ := hv
  simp only [Bool.and_eq_true, Bool.or_eq_true, beq_iff_eq, bne_iff_ne, ne_eq, Option.isNone_iff_eq_none] at hb
  obtain ⟨⟨⟨⟨⟨⟨⟨rfl, n1⟩, o1⟩, v1⟩, -⟩, -⟩, m1⟩, a1⟩ := hb
  obtain ⟨cr, hcr, hl⟩ := State.classLinks_spec hd l1 pl hpl
  cases hc.symm.trans hcr
  obtain ⟨cp, hcp, hnm⟩ := State.names_spec n1
  obtain ⟨dk', cf, hdk', hcf, rfl⟩ := State.poolOf?_spec hd hcp
  cases hdk.symm.trans hdk'
  obtain ⟨ci', nt, hent, hnt, hcn⟩ := namesOf?_method hnm
  have hvt : via = true := v1.symm.trans hvi
  have hE : ci' = ci ∧ cf.constantPool[index]? = some (.interfaceMethodref ci nt) := by
    rcases hent with q | q
    · simp [State.memberEntry?, hcp, q] at e1; rw [hvt] at e1; exact absurd e1.2 (by simp)
    · simp [State.memberEntry?, hcp, q] at e1; exact ⟨e1.1, e1.1 ▸ q⟩
  obtain ⟨rfl, hent'⟩ := hE
  have hne : ci' ≠ index := fun e => by
    subst e
    simp [ConstantPool.className?, hent'] at hcn
  have hdl : dk.loader = none := by
    obtain ⟨dk2, _, _, _, q1, _, q2, _⟩ := hl.here
    cases hdk.symm.trans q1; exact q2
  have hpa : plainAccess s.vm meth.accessFlags mf.cls ok c d dk = true := by
    rcases a1 with q | q
    · exact q
    · exact absurd q.1.2 hcl
  refine ⟨ci', ⟨dk, cf, nt, x.name, x.desc, ck, ok, meth, hdk, hcf, hent', hnt, hl, hne, hck, hvi, hpoly, hnone, State.faceFind_of_found hc hck hvi hpoly hnone hf, hok, hm, hdl.trans m1.symm, ?_, State.openOr_spec hd hdk o1⟩, ?_⟩
  · simpa [Vm.Plain, plainAccess, or_assoc, and_assoc] using hpa
  · simp [State.rightAt, hdk, hcf, hnm, hf]
theorem own_notHere {s : State} {x : MethodName} {cI : ClassId} {kI ok : Class} {r0 : MethodId} (f1 : s.vm.findClass x.cls = some cI) (hkI : s.vm.classes[cI]? = some kI) (hp : ∀ y, signaturePolymorphic kI y = false) (hf : s.methodFound? x.cls x.name x.desc = some r0) (hok : s.vm.classes[r0.cls]? = some ok) (hne : ok.name ≠ kI.name) : kI.findMethod x.name x.desc = none := by
  apply Option.eq_none_iff_forall_ne_some.mpr
  intro j hj
  have hlt : j < kI.methods.size := (Array.findIdx?_eq_some_iff_getElem.mp hj).1
  have hr := State.methodFound?_declared f1 hkI hp hj (by rw [Array.getElem?_eq_getElem hlt]; rfl)
  rw [hf] at hr
  obtain rfl := Option.some.inj hr
  exact hne (congrArg Class.name (Option.some.inj (hok.symm.trans hkI)))
theorem own_entry {s : State} {e : Env} {vm₀ : Vm} {args : Array Value} {d : ClassId} {own J : String} {index : Nat} {x : MethodName} {cI : ClassId} {r0 : MethodId} {r : Method} (hW : s.WarmedH vm₀) (hpl : e.platform.magicAccessors = ({} : Platform).magicAccessors) (hown : s.vm.findClass own = some d)
    (hlink : (Jvm.Cond.methodLink own index x).before args s = true) (hface : (Jvm.Cond.interfaceMethod x.cls J x.name x.desc).before args s = true) (hxo : x.cls ≠ J) (hcl : x.name ≠ "clone") (hx : x.cls ≠ "java/lang/invoke/MethodHandle" ∧ x.cls ≠ "java/lang/invoke/VarHandle") (hcI : s.vm.findClass x.cls = some cI) (hn : s.methodNamed? ⟨J, x.name, x.desc⟩ = some r0) (hrm : s.vm.method? r0 = some r) :
    ∃ ci nt dk ck cf, s.MethodEntryUp e vm₀ d index cI r0 ci ∧ s.vm.classes[d]? = some dk ∧ dk.cf = some cf ∧ cf.constantPool[index]? = some (.interfaceMethodref ci nt) ∧ s.vm.classes[cI]? = some ck ∧ ck.isInterface = true := by
  obtain ⟨ok, hok, hokn⟩ := className_of_methodNamed hn
  obtain ⟨c1, kI, r3, f1, hkI, hiI, hf, f2⟩ := Cond.interfaceMethod_spec hface
  obtain rfl := Option.some.inj (hcI.symm.trans f1)
  obtain rfl := Option.some.inj (hn.symm.trans f2)
  obtain ⟨k2, q, hnI⟩ := Vm.findClass_spec f1
  obtain rfl := Option.some.inj (hkI.symm.trans q)
  have hp : ∀ y, signaturePolymorphic kI y = false := fun y => by simp [signaturePolymorphic, hnI, hx.1, hx.2]
  obtain ⟨ci, hl, hr⟩ := own_linkFF hown f1 hkI hiI (own_notHere f1 hkI hp hf hok (by rw [hokn, hnI]; exact Ne.symm hxo)) hf hok (by simpa [Vm.method?, hok] using hrm) hcl hp hlink e.platform hpl
  obtain ⟨dk, cf, nt, -, -, ck, -, -, hd, hcf, hcp, -, -, -, hck, hvia, -⟩ := hl.here
  exact ⟨ci, nt, dk, ck, cf, State.methodEntryFF hW hl hr, hd, hcf, hcp, hck, hvia⟩
theorem own_ifaceStep {p : Program} {l : Launch} {e : Env} {R : Room} {s : State} {m : MethodId} {args : Array Value} {below : List Frame} {meth : Method} {c : Code} {T : State} {locs : List Loc} {cells slots : Nat} (X : Stand p l e R s m args below meth c T locs cells slots) (hexec : p.tables.exec = Jvm.exec) {own J : String} {index count : Nat} {x : MethodName} (hown : s.vm.findClass own = some m.cls)
    (hlink : (Jvm.Cond.methodLink own index x).before args s = true) (hface : (Jvm.Cond.interfaceMethod x.cls J x.name x.desc).before args s = true) (hdecl : (Jvm.Cond.declares ⟨J, x.name, x.desc⟩).before args s = true) (hxo : x.cls ≠ J) (hcl : x.name ≠ "clone") (hx : x.cls ≠ "java/lang/invoke/MethodHandle" ∧ x.cls ≠ "java/lang/invoke/VarHandle")
    {a : Addr} {cell : Cell} {kcell : Class} {cI : ClassId} (hcI : s.vm.findClass x.cls = some cI) (hcell : T.heap[a]? = some cell) (hobj : ∀ c, cell.vm ≠ .statics c) (hkcell : s.vm.classes[cell.cls]? = some kcell) (hinst : s.vm.assignable cell.cls cI = true)
    {r0 m' : MethodId} {r meth' : Method} (hn : s.methodNamed? ⟨J, x.name, x.desc⟩ = some r0) (hrm : s.vm.method? r0 = some r) (hsel : selectMethod e.platform s.vm cell.cls r0 = .method m') (hm' : s.vm.method? m' = some meth')
    (hway : ((cell.cls :: s.vm.superclasses cell.cls).any fun k => (declaredIn s.vm r.name r.desc k).any fun (_, y) => y.isPrivate || y.isStatic) = false) (hpub : hasFlag meth'.accessFlags Acc.public_ = true) (habs : meth'.isAbstract = false)
    {g : JFrame} (hg : g.method = m) {argsL rest : List Value} (hlen : argsL.length = r.sig.parameters.length) (hstack : g.stack = argsL.reverse ++ .ref a :: rest) (hdg : decode c.code g.pc = .ok (.invokeinterface index count, 5)) :
    ∃ vm', Stand p l e R s m args below meth c (T.setVm vm') locs cells slots ∧ ∀ target, (∀ acts, Steps p.tables e below (doInvoke e ((T.setVm vm').setTop { g with stack := rest }) acts m' (.ref a :: argsL).toArray).1 target) → Steps p.tables e below (T.setTop g) target := by
  obtain ⟨r1, r2, n1, n2, hst, -⟩ := Cond.declares_spec hdecl
  cases hn.symm.trans n1
  cases hrm.symm.trans n2
  subst hg
  obtain ⟨ci, nt, dk, ck, cf, hE, hd, hcf, hcp, hck, hvia⟩ := own_entry (e := e) X.warmed (by rw [X.admits.platform]) hown hlink hface hxo hcl hx hcI hn hrm
  obtain ⟨vmX, hvX⟩ : ∃ v, T.vm.calledUp g.method.cls ci index cI r0 = v := ⟨_, rfl⟩
  have wX : s.WarmedH vmX := hvX ▸ hE.warmed
  have al := wX.alike
  obtain ⟨dk2, hdk2, hres⟩ := hE.classReady
  have hrd := hE.ready
  rw [hvX] at hdk2 hrd
  obtain ⟨dk3, hdk3, hed⟩ := al.2.2 _ _ hd
  obtain rfl := Option.some.inj (hdk3.symm.trans hdk2)
  obtain ⟨ck2, hck2, hec⟩ := al.2.2 _ _ hck
  obtain ⟨kc2, hkc2, -⟩ := al.2.2 _ _ hkcell
  refine ⟨vmX, X.noted wX, fun target hrest => ?_⟩
  jvm_step X.here [hexec, hdg, invokeinterface.wp_coldFace (e := e) (s := T) (s₀ := s) (f := g) (count := count) X.here.top X.warmed hE hd hcf (Or.inr hcp) hck hvia, hvX,
    invokeinterface.wp_ready (e := e) (s := T.setVm vmX) (f := g) (count := count) (r := r) (meth := meth') (m := m') (args := argsL) (rest := rest) (cell := cell) (kcell := kc2) (ck := dk3) (nk := ck2) (cf := cf) (ci := ci) (nt := nt) (named := cI) X.here.top hrd (show vmX.method? r0 = some r by rw [al.method?]; exact hrm) hst hlen hstack hcell hobj hkc2 hdk2 (by rw [hed]; exact hcf) hcp hres hck2 (by rw [hec]; exact hvia)
      (show vmX.assignable cell.cls cI = true by rw [al.assignable]; exact hinst) (show selectMethod e.platform vmX cell.cls r0 = .method m' by rw [al.selectMethod]; exact hsel) (show vmX.method? m' = some meth' by rw [al.method?]; exact hm') (Or.inr (Or.inr (by show ((cell.cls :: vmX.superclasses cell.cls).any fun k => (declaredIn vmX r.name r.desc k).any fun (_, y) => y.isPrivate || y.isStatic) = false; simp only [al.superclasses, al.declaredIn]; exact hway))) (Or.inl hpub) habs]
  exact hrest
theorem g_ifaceUp (X : Stand p l e R s m args below meth c T locs cells slots) (hx : p.tables.exec = Jvm.exec) (hZ : Z.Warmed39 s.vm) (hown : s.vm.findClass own = some m.cls) {index count : Nat} {y z : MethodName} {K J : String} {ret : Option FieldType} {bytes : ByteArray} {maxL : Nat} {rm : Room} {as' : Array Value} {Q' : Option Value → Heap → List Loc → Prop} (w1 : (Cond.methodLink own index y).before a0 Z = true) (w2 : (Cond.declares ⟨J, y.name, y.desc⟩).before a0 Z = true) (w2' : (Cond.interfaceMethod y.cls J y.name y.desc).before a0 Z = true) (hxo : y.cls ≠ J) (hcn : y.name ≠ "clone") (w3 : (Cond.selects K y z).before a0 Z = true) (w4 : (Cond.instanceMethod z).before a0 Z = true) (w7 : (Cond.publicMethod z).before a0 Z = true) (w8 : (Cond.unhidden K y.name y.desc).before a0 Z = true) (w9 : (Cond.castable K y.cls).before a0 Z = true) (w5 : (Cond.initialized z.cls).before a0 Z = true) (w6 : (Cond.code z bytes maxL ret).before a0 Z = true) (hy : y.cls ≠ "java/lang/invoke/MethodHandle" ∧ y.cls ≠ "java/lang/invoke/VarHandle") {a : Addr} (E : Exa Z h a K)
    (hM : Ct l Z z bytes maxL ret [] rm as' h Q') (hsz : Ls.size = c.maxLocals) (eT : T.heap = h) (argsL : List Value) {rest : List Value} (has : as' = (.ref a :: argsL).toArray) (hst : st = argsL.reverse ++ .ref a :: rest) {W : Nat} (hW : (rest.map fun v => v.category).sum ≤ W) (hf : rm.frames + 1 ≤ R.frames) (hl : W + (maxL + 11) + rm.locals ≤ R.locals) (hcl : cells + rm.cells ≤ R.cells) (hsl : slots + rm.slots ≤ R.slots) (hlen : ∀ sig, parseMethodDescriptor y.desc = some sig → argsL.length = sig.parameters.length) (hd : decode c.code pc = .ok (.invokeinterface index count, 5)) (hp : pc + 5 = q) (k : ∀ v T' L, Stand p l e R s m args below meth c T' (locs ++ L) (cells + rm.cells) (slots + rm.slots) → Q' v T'.heap L → Ga p e below s Q C S T' m q Ls (v.toList ++ rest)) : Ga p e below s Q C S T m pc Ls st := by
  subst hp has hst
  obtain ⟨cB, kB, hcB, hkB, cellB, hcellT, hclsB, hstatB⟩ := isOf hZ eT E
  have u1 : (Cond.methodLink own index y).before args s = true := mvT hZ w1
  have u2 : (Cond.declares ⟨J, y.name, y.desc⟩).before args s = true := mvT hZ w2
  have u3 : (Cond.interfaceMethod y.cls J y.name y.desc).before args s = true := Jvm.Free.ULB.iface_rides hZ.alike w2'
  have u4 : (Cond.selects K y z).before args s = true := mvT hZ w3
  have u5 : (Cond.instanceMethod z).before args s = true := mvT hZ w4
  have u6 : (Cond.publicMethod z).before args s = true := mvT hZ w7
  have u7 : (Cond.unhidden K y.name y.desc).before args s = true := mvT hZ w8
  have u8 : (Cond.castable K y.cls).before args s = true := mvT hZ w9
  obtain ⟨r0, r, hn, hrm, -, hsigR⟩ := Cond.declares_spec u2
  obtain ⟨cL, kL, r1, hcL, hkL, -, hfoundL, hn1⟩ := Cond.interfaceMethod_spec u3
  cases hn.symm.trans hn1
  obtain ⟨hnameR, hdescR⟩ := name_of_methodNamed hn hrm
  obtain ⟨mk, methM, hnamed, hmethM, -, habM⟩ := Cond.instanceMethod_spec u5
  obtain ⟨c2, r2, m2, q1, q2, q3, q4, -⟩ := Cond.selects_spec u4
  cases hcB.symm.trans q1
  cases hfoundL.symm.trans q2
  cases hnamed.symm.trans q3
  obtain ⟨c3, t3, i1, i2, i3⟩ := Cond.castable_spec u8
  cases hcB.symm.trans i1
  cases hcL.symm.trans i2
  obtain ⟨vm₁, X₁, hstep⟩ := own_ifaceStep X hx hown u1 u3 u2 hxo hcn hy (a := a) (cell := cellB) (kcell := kB) hcL hcellT (fun z h => by rw [h] at hstatB; cases hstatB) (by rw [hclsB]; exact hkB) (by rw [hclsB]; exact i3) hn hrm (by rw [Launch.admits_selectMethod X.admits, hclsB]; exact q4) hmethM (by rw [hnameR, hdescR, hclsB]; exact Cond.unhidden_spec hcB u7) (Cond.publicMethod_spec hnamed hmethM u6) habM (g := mkF m pc Ls (argsL.reverse ++ .ref a :: rest)) rfl (argsL := argsL) (rest := rest) (hlen _ hsigR) rfl hd
  obtain ⟨v, ⟨T', L', k', n'⟩, X', ⟨Lc, hQ', l1, y1, z1⟩, sx⟩ := (backOf (len := 5) (W := W) hM hZ w6 w5 hf hl : Back l R p e below s args z 5 W _ _) m meth c ⟨T.setVm vm₁, locs, cells, slots⟩ (mkF m pc Ls rest) (.invokeinterface index count) mk (.ref a :: argsL).toArray X₁ rfl hsz hd (by show 2 * 0 + (rest.map fun v => v.category).sum ≤ _; omega) (X₁.named hnamed) ⟨rfl, eT, hcl, hsl⟩
  dsimp only [Pt.U, Pt.locs, Pt.cells, Pt.slots] at X' l1 y1 z1 sx hQ'
  subst l1 y1 z1
  exact Ga.stp (fun _ kk => hstep _ fun acts => by rw [doInvoke_state]; exact sx.trans kk) (k _ T' Lc X' hQ')
variable {ka : ClassId} {ty : FieldType} {z j : Int32} {vs : List Value} {dv : Value} {a : Addr}
theorem g_len (X : Stand p l e R s m args below meth c T locs cells slots) (hx : p.tables.exec = Jvm.exec) (hZ : Z.Warmed39 s.vm) (eT : T.heap = h) (A : Arv Z h a ka ty z vs dv) (hd : decode c.code pc = .ok (.arraylength, 1)) (hp : pc + 1 = q) (g : Ga p e below s Q C S T m q Ls (.int z :: st)) : Ga p e below s Q C S T m pc Ls (.ref a :: st) := by
  subst hp
  obtain ⟨cl, Ar, -, Sz, N, -, -⟩ := A
  refine Ga.stp (fun t k => X.arraylength hx (by rw [eT]; exact Ar.1) (State.isArrayOf_alike hZ.alike Ar.2.1) (g := mkF m pc Ls (.ref a :: st)) rfl rfl hd t ?_) g
  rw [len_of Sz N]; exact k
theorem g_baload (X : Stand p l e R s m args below meth c T locs cells slots) (hx : p.tables.exec = Jvm.exec) (hZ : Z.Warmed39 s.vm) (eT : T.heap = h) (A : Arv Z h a ka .byte z vs dv) {v : Value} (hin : ¬ j < 0 ∧ j < z) (hv : vs.getD j.toNatClampNeg dv = v) (hd : decode c.code pc = .ok (.baload, 1)) (hp : pc + 1 = q) (g : Ga p e below s Q C S T m q Ls (v :: st)) : Ga p e below s Q C S T m pc Ls (.int j :: .ref a :: st) := by
  subst hp
  obtain ⟨cl, Ar, -, Sz, N, Hs, -⟩ := A
  exact Ga.stp (fun t k => X.baloadBytes hx (j := j) (v := v) (by rw [eT]; exact Ar.1) (State.isArrayOf_alike hZ.alike Ar.2.1) Ar.2.2 (inb_of Sz hin) (Hs.at (inb_of Sz hin) hv) (g := mkF m pc Ls (.int j :: .ref a :: st)) rfl rfl hd t k) g
theorem g_bastore (X : Stand p l e R s m args below meth c T locs cells slots) (hx : p.tables.exec = Jvm.exec) (hZ : Z.Warmed39 s.vm) (eT : T.heap = h) (A : Arv Z h a ka .byte z vs dv) {x : Int32} (hin : ¬ j < 0 ∧ j < z) (hlen : j.toNatClampNeg < vs.length) (hd : decode c.code pc = .ok (.bastore, 1)) (hp : pc + 1 = q)
    (k : ∀ T' h', Stand p l e R s m args below meth c T' (locs ++ [⟨a, j.toNatClampNeg⟩]) cells slots → T'.heap = h' → Wr h h' a j.toNatClampNeg (.int (nar .byte x)) → Arv Z h' a ka .byte z (vs.set j.toNatClampNeg (.int (nar .byte x))) dv → Ga p e below s Q C S T' m q Ls st) : Ga p e below s Q C S T m pc Ls (.int x :: .int j :: .ref a :: st) := by
  subst hp
  obtain ⟨cl, Ar, q1, Sz, N, Hs, Gs⟩ := A
  obtain ⟨T', h', X', e', W', sx⟩ := stB X hx hZ eT Ar (j := j) (inb_of Sz hin) (g := mkF m pc Ls (.int x :: .int j :: .ref a :: st)) rfl rfl hd
  exact Ga.stp sx (k T' h' X' e' W' (Arv.set Ar q1 Sz N Hs Gs (fits_nar_byte x) W' _ rfl hlen))
theorem g_newarray (X : Stand p l e R s m args below meth c T locs cells slots) (hx : p.tables.exec = Jvm.exec) (hZ : Z.Warmed39 s.vm) {aty : ArrayType} (w : (Cond.arrayClass (newarray.typeOf aty)).before a0 Z = true) (eT : T.heap = h) {n : Int32} (hn : ¬ n < 0) (cap : Nat) (hcap : n.toNatClampNeg ≤ cap) (hb : cap * 8 ≤ 536870912) (hc : cells + 1 ≤ R.cells) (hl : slots + cap ≤ R.slots) {ad : String} (had : "[" ++ (newarray.typeOf aty).toString = ad) (hd : decode c.code pc = .ok (.newarray aty, 2)) (hp : pc + 2 = q)
    (k : ∀ T' h' b kA, Stand p l e R s m args below meth c T' locs (cells + 1) (slots + cap) → T'.heap = h' → b = h.size → Ext h h' → Exa Z h' b ad → Arv Z h' b kA (newarray.typeOf aty) n (List.replicate cap (defaultValue (newarray.typeOf aty))) (defaultValue (newarray.typeOf aty)) → Ga p e below s Q C S T' m q Ls (.ref b :: st)) : Ga p e below s Q C S T m pc Ls (.int n :: st) := by
  subst hp
  obtain ⟨T', h', cA, X', e', E', A', Ea, sx⟩ := newPE X hx hZ w eT (g := mkF m pc Ls (.int n :: st)) rfl hd rfl hn hcap hb hc hl had
  exact Ga.stp sx (k T' h' _ cA X' e' rfl E' Ea ((Arv.new A' hn).pad (by simpa using pad_rep [] (defaultValue (newarray.typeOf aty)) cap)))
theorem g_anewarray (X : Stand p l e R s m args below meth c T locs cells slots) (hx : p.tables.exec = Jvm.exec) (hZ : Z.Warmed39 s.vm) (hown : s.vm.findClass own = some m.cls) {K : String} {index : Nat} (w1 : (Cond.classLink own index K).before a0 Z = true) (w2 : (Cond.arrayOver (.object K)).before a0 Z = true) (eT : T.heap = h) {n : Int32} (hn : ¬ n < 0) (cap : Nat) (hcap : n.toNatClampNeg ≤ cap) (hb : cap * 8 ≤ 536870912) (hc : cells + 1 ≤ R.cells) (hl : slots + cap ≤ R.slots) {ad : String} (had : "[" ++ (FieldType.object K).toString = ad) (hd : decode c.code pc = .ok (.anewarray index, 3)) (hp : pc + 3 = q)
    (k : ∀ T' h' b kA, Stand p l e R s m args below meth c T' locs (cells + 1) (slots + cap) → T'.heap = h' → b = h.size → Ext h h' → Exa Z h' b ad → Ovr Z kA K → Arv Z h' b kA (.object K) n (List.replicate cap .null) .null → Ga p e below s Q C S T' m q Ls (.ref b :: st)) : Ga p e below s Q C S T m pc Ls (.int n :: st) := by
  subst hp
  obtain ⟨T', h', cA, X', e', E', A', Ea, O', sx⟩ := newRE X hx hZ hown w1 w2 eT (g := mkF m pc Ls (.int n :: st)) rfl hd rfl hn hcap hb hc hl had
  exact Ga.stp sx (k T' h' _ cA X' e' rfl E' Ea O' ((Arv.new A' hn).pad (by show ∀ i, (List.replicate cap (defaultValue (FieldType.object K))).getD i (defaultValue (FieldType.object K)) = [].getD i (defaultValue (FieldType.object K)); simpa using pad_rep [] (defaultValue (FieldType.object K)) cap)))
theorem g_clone (X : Stand p l e R s m args below meth c T locs cells slots) (hx : p.tables.exec = Jvm.exec) (hZ : Z.Warmed39 s.vm) (hown : s.vm.findClass own = some m.cls) {ad : String} {index : Nat} (w1 : (Cond.methodLink own index ⟨ad, "clone", "()Ljava/lang/Object;"⟩).before a0 Z = true) (w2 : (Cond.sameMethod ad "java/lang/Object" "clone" "()Ljava/lang/Object;").before a0 Z = true) (w3 : (Cond.native ⟨"java/lang/Object", "clone", "()Ljava/lang/Object;"⟩).before a0 Z = true)
    (w4 : (Cond.instanceMethod ⟨"java/lang/Object", "clone", "()Ljava/lang/Object;"⟩).before a0 Z = true) (w5 : (Cond.selects ad ⟨ad, "clone", "()Ljava/lang/Object;"⟩ ⟨"java/lang/Object", "clone", "()Ljava/lang/Object;"⟩).before a0 Z = true) (w6 : (Cond.castable ad "java/lang/Cloneable").before a0 Z = true)
    (eT : T.heap = h) (A : Arv Z h a ka ty z vs dv) (E : Exa Z h a ad) (hsz : Ls.size = c.maxLocals) (hd : decode c.code pc = .ok (.invokevirtual index, 3)) (hp : pc + 3 = q) (hf : 1 ≤ R.frames) {W : Nat} (hW : (st.map fun v => v.category).sum ≤ W) (hl : W + 14 ≤ R.locals) (cap : Nat) (hcap : z.toNatClampNeg ≤ cap) (hc : cells + 1 ≤ R.cells) (hsl : slots + cap ≤ R.slots)
    (k : ∀ T' h' b, Stand p l e R s m args below meth c T' locs (cells + 1) (slots + cap) → T'.heap = h' → b = h.size → Ext h h' → Exa Z h' b ad → Arv Z h' b ka ty z vs dv → Ga p e below s Q C S T' m q Ls (.ref b :: st)) : Ga p e below s Q C S T m pc Ls (.ref a :: st) := by
  subst hp
  obtain ⟨T', h', X', e', E', A', Ea, sx⟩ := cloneH X hx hZ hown w1 w2 w3 w4 w5 w6 eT A.arh E (g := mkF m pc Ls (.ref a :: st)) rfl hsz rfl hd hf (W := W) (by show 2 * 0 + _ ≤ _; omega) hl hcap hc hsl
  exact Ga.stp sx (k T' h' _ X' e' rfl E' Ea A')
theorem g_arraycopy (X : Stand p l e R s m args below meth c T locs cells slots) (hx : p.tables.exec = Jvm.exec) (hZ : Z.Warmed39 s.vm) (hown : s.vm.findClass own = some m.cls) {index : Nat} (w1 : (Cond.methodLink own index Jvm.Stand.acN).before a0 Z = true) (w2 : (Cond.native Jvm.Stand.acN).before a0 Z = true) (w3 : (Cond.static Jvm.Stand.acN).before a0 Z = true) (w4 : (Cond.initialized "java/lang/System").before a0 Z = true) (eT : T.heap = h)
    {b : Addr} {kb : ClassId} {zb sp dp nn : Int32} {vd : List Value} {dd : Value} (A : Arv Z h a ka ty z vs dv) (B : Arv Z h b kb ty zb vd dd) (hty : refKind ty = false) (h1 : ¬ sp < 0) (h2 : ¬ dp < 0) (h3 : ¬ nn < 0) (h4 : sp.toNatClampNeg + nn.toNatClampNeg ≤ z.toNatClampNeg) (h5 : dp.toNatClampNeg + nn.toNatClampNeg ≤ zb.toNatClampNeg) (hlv : dp.toNatClampNeg + nn.toNatClampNeg ≤ vd.length)
    {n0 : Nat} (N : Fr n0 locs) (ge : n0 ≤ b) (hsz : Ls.size = c.maxLocals) (hd : decode c.code pc = .ok (.invokestatic index, 3)) (hp : pc + 3 = q) (hf : 1 ≤ R.frames) {W : Nat} (hW : (st.map fun v => v.category).sum ≤ W) (hlo : W + (nativeFrameWords "java/lang/System" "arraycopy" 5 + 11) ≤ R.locals)
    (k : ∀ T' h' L, Stand p l e R s m args below meth c T' L cells slots → T'.heap = h' → Fr n0 L → Keep h h' [b] → Arv Z h' b kb ty zb (vd.take dp.toNatClampNeg ++ ((List.range nn.toNatClampNeg).map fun i => vs.getD (sp.toNatClampNeg + i) dv) ++ vd.drop (dp.toNatClampNeg + nn.toNatClampNeg)) dd → Ga p e below s Q C S T' m q Ls st) : Ga p e below s Q C S T m pc Ls (.int nn :: .int dp :: .ref b :: .int sp :: .ref a :: st) := by
  subst hp
  obtain ⟨T', h', L', X', e', N', K', A', sx⟩ := cpA X hx hZ hown w1 w2 w3 w4 eT A B (Or.inl ⟨rfl, hty⟩) h1 h2 h3 h4 h5 rfl hlv N ge (g := mkF m pc Ls (.int nn :: .int dp :: .ref b :: .int sp :: .ref a :: st)) rfl hsz rfl hd hf (W := W) (by show 2 * 0 + _ ≤ _; omega) hlo
  exact Ga.stp sx (k T' h' L' X' e' N' K' A')
theorem g_acopyP (X : Stand p l e R s m args below meth c T locs cells slots) (hx : p.tables.exec = Jvm.exec) (hZ : Z.Warmed39 s.vm) (hown : s.vm.findClass own = some m.cls) {index : Nat} (w1 : (Cond.methodLink own index Jvm.Stand.acN).before a0 Z = true) (w2 : (Cond.native Jvm.Stand.acN).before a0 Z = true) (w3 : (Cond.static Jvm.Stand.acN).before a0 Z = true) (w4 : (Cond.initialized "java/lang/System").before a0 Z = true) (eT : T.heap = h)
    {b : Addr} {kb : ClassId} {zb nn : Int32} {vd : List Value} {dd : Value} (A : Arv Z h a ka ty z vs dv) (B : Arv Z h b kb ty zb vd dd) (hty : refKind ty = false) (h3 : ¬ nn < 0) (h4 : nn.toNatClampNeg ≤ z.toNatClampNeg) (h5 : nn.toNatClampNeg ≤ zb.toNatClampNeg) (hlv : nn.toNatClampNeg ≤ vd.length)
    {n0 : Nat} (N : Fr n0 locs) (ge : n0 ≤ b) (hsz : Ls.size = c.maxLocals) (hd : decode c.code pc = .ok (.invokestatic index, 3)) (hp : pc + 3 = q) (hf : 1 ≤ R.frames) {W : Nat} (hW : (st.map fun v => v.category).sum ≤ W) (hlo : W + (nativeFrameWords "java/lang/System" "arraycopy" 5 + 11) ≤ R.locals)
    (k : ∀ T' h' L ds, Stand p l e R s m args below meth c T' L cells slots → T'.heap = h' → Fr n0 L → Keep h h' [b] → Arv Z h' b kb ty zb ds dd → ds.length = vd.length → (∀ j, j < nn.toNatClampNeg → ds.getD j dd = vs.getD j dv) → Ga p e below s Q C S T' m q Ls st) : Ga p e below s Q C S T m pc Ls (.int nn :: .int (0 : Int32) :: .ref b :: .int (0 : Int32) :: .ref a :: st) := by
  have z0 : (0 : Int32).toNatClampNeg = 0 := rfl
  refine g_arraycopy X hx hZ hown w1 w2 w3 w4 eT A B hty (by decide) (by decide) h3 (by rw [z0]; omega) (by rw [z0]; omega) (by rw [z0]; omega) N ge hsz hd hp hf hW hlo fun T' h' L X' e' N' K' A' => k T' h' L _ X' e' N' K' A' ?_ ?_
  · rw [z0]; simp; omega
  · intro j hj
    rw [z0, List.take_zero, List.nil_append]
    rw [List.getD_eq_getElem?_getD, List.getElem?_append_left (by simpa using hj), List.getElem?_map, List.getElem?_range hj]
    simp
theorem own_ne {b : Addr} (h1 : a < h.size) (h2 : b = h.size) : a ≠ b := Nat.ne_of_lt (h2 ▸ h1)
theorem own_neK {b : Addr} (h1 : a < h.size) (h2 : h.size ≤ b) : a ≠ b := Nat.ne_of_lt (Nat.lt_of_lt_of_le h1 h2)
end GoKit

theorem own_irrI (x : Int32) : ¬ x < x := Int32.lt_irrefl
theorem own_irrJ (x : Int64) : ¬ x < x := Int64.lt_irrefl
theorem own_narc (x : Int32) : nar .char (x &&& (255 : Int32)) = (x &&& (255 : Int32)) := i2c_mask x
theorem own_nar (x : Int32) : nar .byte x = x.toInt8.toInt32 := rfl
theorem own_bb (x : Int32) : x.toInt8.toInt32.toInt8.toInt32 = x.toInt8.toInt32 := by simp
theorem own_nb {h : Heap} {b b' y : Addr} (hb : b' = b ∨ h.size ≤ b') (lt : y < h.size) (ne : y ≠ b) : y ≠ b' := hb.elim (fun q => q ▸ ne) (fun q => Nat.ne_of_lt (Nat.lt_of_lt_of_le lt q))
theorem own_ng {h : Heap} {b b' : Addr} {n0 : Nat} (hb : b' = b ∨ h.size ≤ b') (g : n0 ≤ b) (Z : n0 ≤ h.size) : n0 ≤ b' := hb.elim (fun q => q ▸ g) (fun q => Nat.le_trans Z q)
theorem own_insK {Z : State} {h h' : Heap} {a : Addr} {C : String} {ws : List Addr} (F : Ins Z h a C true) (K : Keep h h' ws) : Ins Z h' a C true := by
  obtain ⟨cell, cT, h1, h2, h3⟩ := F
  obtain ⟨c', q1, q2, q3, -⟩ := K.2.2 _ _ h1
  exact ⟨c', cT, q1, h2, by rw [q2, q3]; exact h3⟩
theorem d_jdk_22_m_1_0 : decode jdk_22_method_1_code 0 = .ok (.aload_n 0, 1) := by decide +kernel
theorem d_jdk_22_m_1_1 : decode jdk_22_method_1_code 1 = .ok (.invokespecial 1, 3) := by decide +kernel
theorem d_jdk_22_m_1_4 : decode jdk_22_method_1_code 4 = .ok (.return_, 1) := by decide +kernel
theorem d_jdk_21_m_3_0 : decode jdk_21_method_3_code 0 = .ok (.aload_n 0, 1) := by decide +kernel
theorem d_jdk_21_m_3_1 : decode jdk_21_method_3_code 1 = .ok (.invokespecial 42, 3) := by decide +kernel
theorem d_jdk_21_m_3_4 : decode jdk_21_method_3_code 4 = .ok (.aload_n 0, 1) := by decide +kernel
theorem d_jdk_21_m_3_5 : decode jdk_21_method_3_code 5 = .ok (.bipush 17, 2) := by decide +kernel
theorem d_jdk_21_m_3_7 : decode jdk_21_method_3_code 7 = .ok (.anewarray 47, 3) := by decide +kernel
theorem d_jdk_21_m_3_10 : decode jdk_21_method_3_code 10 = .ok (.putfield 3, 3) := by decide +kernel
theorem d_jdk_21_m_3_13 : decode jdk_21_method_3_code 13 = .ok (.return_, 1) := by decide +kernel
theorem d_jdk_21_m_38_0 : decode jdk_21_method_38_code 0 = .ok (.aload_n 0, 1) := by decide +kernel
theorem d_jdk_21_m_38_1 : decode jdk_21_method_38_code 1 = .ok (.getfield 24, 3) := by decide +kernel
theorem d_jdk_21_m_38_4 : decode jdk_21_method_38_code 4 = .ok (.aload_n 0, 1) := by decide +kernel
theorem d_jdk_21_m_38_5 : decode jdk_21_method_38_code 5 = .ok (.getfield 20, 3) := by decide +kernel
theorem d_jdk_21_m_38_8 : decode jdk_21_method_38_code 8 = .ok (.if_icmp .ne 7, 3) := by decide +kernel
theorem d_jdk_21_m_38_11 : decode jdk_21_method_38_code 11 = .ok (.iconst 1, 1) := by decide +kernel
theorem d_jdk_21_m_38_12 : decode jdk_21_method_38_code 12 = .ok (.goto 4, 3) := by decide +kernel
theorem d_jdk_21_m_38_16 : decode jdk_21_method_38_code 16 = .ok (.ireturn, 1) := by decide +kernel
theorem d_prog_15_m_19_0 : decode prog_15_method_19_code 0 = .ok (.aload_n 0, 1) := by decide +kernel
theorem d_prog_15_m_19_1 : decode prog_15_method_19_code 1 = .ok (.getfield 55, 3) := by decide +kernel
theorem d_prog_15_m_19_4 : decode prog_15_method_19_code 4 = .ok (.aload_n 0, 1) := by decide +kernel
theorem d_prog_15_m_19_5 : decode prog_15_method_19_code 5 = .ok (.getfield 7, 3) := by decide +kernel
theorem d_prog_15_m_19_8 : decode prog_15_method_19_code 8 = .ok (.arraylength, 1) := by decide +kernel
theorem d_prog_15_m_19_9 : decode prog_15_method_19_code 9 = .ok (.if_icmp .ne 21, 3) := by decide +kernel
theorem d_prog_15_m_19_30 : decode prog_15_method_19_code 30 = .ok (.aload_n 0, 1) := by decide +kernel
theorem d_prog_15_m_19_31 : decode prog_15_method_19_code 31 = .ok (.getfield 7, 3) := by decide +kernel
theorem d_prog_15_m_19_34 : decode prog_15_method_19_code 34 = .ok (.aload_n 0, 1) := by decide +kernel
theorem d_prog_15_m_19_35 : decode prog_15_method_19_code 35 = .ok (.dup, 1) := by decide +kernel
theorem d_prog_15_m_19_36 : decode prog_15_method_19_code 36 = .ok (.getfield 55, 3) := by decide +kernel
theorem d_prog_15_m_19_39 : decode prog_15_method_19_code 39 = .ok (.dup_x1, 1) := by decide +kernel
theorem d_prog_15_m_19_40 : decode prog_15_method_19_code 40 = .ok (.iconst 1, 1) := by decide +kernel
theorem d_prog_15_m_19_41 : decode prog_15_method_19_code 41 = .ok (.iadd, 1) := by decide +kernel
theorem d_prog_15_m_19_42 : decode prog_15_method_19_code 42 = .ok (.putfield 55, 3) := by decide +kernel
theorem d_prog_15_m_19_45 : decode prog_15_method_19_code 45 = .ok (.iload_n 1, 1) := by decide +kernel
theorem d_prog_15_m_19_46 : decode prog_15_method_19_code 46 = .ok (.bastore, 1) := by decide +kernel
theorem d_prog_15_m_19_47 : decode prog_15_method_19_code 47 = .ok (.return_, 1) := by decide +kernel
theorem d_prog_15_m_16_0 : decode prog_15_method_16_code 0 = .ok (.aload_n 0, 1) := by decide +kernel
theorem d_prog_15_m_16_1 : decode prog_15_method_16_code 1 = .ok (.iload_n 1, 1) := by decide +kernel
theorem d_prog_15_m_16_2 : decode prog_15_method_16_code 2 = .ok (.i2b, 1) := by decide +kernel
theorem d_prog_15_m_16_3 : decode prog_15_method_16_code 3 = .ok (.invokevirtual 27, 3) := by decide +kernel
theorem d_prog_15_m_16_6 : decode prog_15_method_16_code 6 = .ok (.aload_n 0, 1) := by decide +kernel
theorem d_prog_15_m_16_7 : decode prog_15_method_16_code 7 = .ok (.iload_n 1, 1) := by decide +kernel
theorem d_prog_15_m_16_8 : decode prog_15_method_16_code 8 = .ok (.bipush 8, 2) := by decide +kernel
theorem d_prog_15_m_16_10 : decode prog_15_method_16_code 10 = .ok (.iushr, 1) := by decide +kernel
theorem d_prog_15_m_16_11 : decode prog_15_method_16_code 11 = .ok (.i2b, 1) := by decide +kernel
theorem d_prog_15_m_16_12 : decode prog_15_method_16_code 12 = .ok (.invokevirtual 27, 3) := by decide +kernel
theorem d_prog_15_m_16_15 : decode prog_15_method_16_code 15 = .ok (.return_, 1) := by decide +kernel
theorem d_prog_15_m_17_0 : decode prog_15_method_17_code 0 = .ok (.aload_n 0, 1) := by decide +kernel
theorem d_prog_15_m_17_1 : decode prog_15_method_17_code 1 = .ok (.iload_n 1, 1) := by decide +kernel
theorem d_prog_15_m_17_2 : decode prog_15_method_17_code 2 = .ok (.invokevirtual 24, 3) := by decide +kernel
theorem d_prog_15_m_17_5 : decode prog_15_method_17_code 5 = .ok (.aload_n 0, 1) := by decide +kernel
theorem d_prog_15_m_17_6 : decode prog_15_method_17_code 6 = .ok (.iload_n 1, 1) := by decide +kernel
theorem d_prog_15_m_17_7 : decode prog_15_method_17_code 7 = .ok (.bipush 16, 2) := by decide +kernel
theorem d_prog_15_m_17_9 : decode prog_15_method_17_code 9 = .ok (.iushr, 1) := by decide +kernel
theorem d_prog_15_m_17_10 : decode prog_15_method_17_code 10 = .ok (.invokevirtual 24, 3) := by decide +kernel
theorem d_prog_15_m_17_13 : decode prog_15_method_17_code 13 = .ok (.return_, 1) := by decide +kernel
theorem d_prog_15_m_1_0 : decode prog_15_method_1_code 0 = .ok (.aload_n 0, 1) := by decide +kernel
theorem d_prog_15_m_1_1 : decode prog_15_method_1_code 1 = .ok (.invokespecial 1, 3) := by decide +kernel
theorem d_prog_15_m_1_4 : decode prog_15_method_1_code 4 = .ok (.aload_n 0, 1) := by decide +kernel
theorem d_prog_15_m_1_5 : decode prog_15_method_1_code 5 = .ok (.bipush 64, 2) := by decide +kernel
theorem d_prog_15_m_1_7 : decode prog_15_method_1_code 7 = .ok (.newarray .byte, 2) := by decide +kernel
theorem d_prog_15_m_1_9 : decode prog_15_method_1_code 9 = .ok (.putfield 7, 3) := by decide +kernel
theorem d_prog_15_m_1_12 : decode prog_15_method_1_code 12 = .ok (.aload_n 0, 1) := by decide +kernel
theorem d_prog_15_m_1_13 : decode prog_15_method_1_code 13 = .ok (.new 13, 3) := by decide +kernel
theorem d_prog_15_m_1_16 : decode prog_15_method_1_code 16 = .ok (.dup, 1) := by decide +kernel
theorem d_prog_15_m_1_17 : decode prog_15_method_1_code 17 = .ok (.invokespecial 15, 3) := by decide +kernel
theorem d_prog_15_m_1_20 : decode prog_15_method_1_code 20 = .ok (.putfield 16, 3) := by decide +kernel
theorem d_prog_15_m_1_23 : decode prog_15_method_1_code 23 = .ok (.aload_n 0, 1) := by decide +kernel
theorem d_prog_15_m_1_24 : decode prog_15_method_1_code 24 = .ok (.iconst 0, 1) := by decide +kernel
theorem d_prog_15_m_1_25 : decode prog_15_method_1_code 25 = .ok (.invokevirtual 20, 3) := by decide +kernel
theorem d_prog_15_m_1_28 : decode prog_15_method_1_code 28 = .ok (.aload_n 0, 1) := by decide +kernel
theorem d_prog_15_m_1_29 : decode prog_15_method_1_code 29 = .ok (.iload_n 1, 1) := by decide +kernel
theorem d_prog_15_m_1_30 : decode prog_15_method_1_code 30 = .ok (.invokevirtual 24, 3) := by decide +kernel
theorem d_prog_15_m_1_33 : decode prog_15_method_1_code 33 = .ok (.aload_n 0, 1) := by decide +kernel
theorem d_prog_15_m_1_34 : decode prog_15_method_1_code 34 = .ok (.iload_n 2, 1) := by decide +kernel
theorem d_prog_15_m_1_35 : decode prog_15_method_1_code 35 = .ok (.invokevirtual 24, 3) := by decide +kernel
theorem d_prog_15_m_1_38 : decode prog_15_method_1_code 38 = .ok (.aload_n 0, 1) := by decide +kernel
theorem d_prog_15_m_1_39 : decode prog_15_method_1_code 39 = .ok (.iload_n 3, 1) := by decide +kernel
theorem d_prog_15_m_1_40 : decode prog_15_method_1_code 40 = .ok (.invokevirtual 20, 3) := by decide +kernel
theorem d_prog_15_m_1_43 : decode prog_15_method_1_code 43 = .ok (.aload_n 0, 1) := by decide +kernel
theorem d_prog_15_m_1_44 : decode prog_15_method_1_code 44 = .ok (.iload 4, 2) := by decide +kernel
theorem d_prog_15_m_1_46 : decode prog_15_method_1_code 46 = .ok (.invokevirtual 20, 3) := by decide +kernel
theorem d_prog_15_m_1_49 : decode prog_15_method_1_code 49 = .ok (.return_, 1) := by decide +kernel
theorem d_jdk_29_m_69_0 : decode jdk_29_method_69_code 0 = .ok (.iload_n 0, 1) := by decide +kernel
theorem d_jdk_29_m_69_1 : decode jdk_29_method_69_code 1 = .ok (.iload_n 1, 1) := by decide +kernel
theorem d_jdk_29_m_69_2 : decode jdk_29_method_69_code 2 = .ok (.if_icmp .gt 7, 3) := by decide +kernel
theorem d_jdk_29_m_69_5 : decode jdk_29_method_69_code 5 = .ok (.iload_n 0, 1) := by decide +kernel
theorem d_jdk_29_m_69_6 : decode jdk_29_method_69_code 6 = .ok (.goto 4, 3) := by decide +kernel
theorem d_jdk_29_m_69_10 : decode jdk_29_method_69_code 10 = .ok (.ireturn, 1) := by decide +kernel
theorem d_jdk_65_m_121_0 : decode jdk_65_method_121_code 0 = .ok (.iload_n 1, 1) := by decide +kernel
theorem d_jdk_65_m_121_1 : decode jdk_65_method_121_code 1 = .ok (.aload_n 0, 1) := by decide +kernel
theorem d_jdk_65_m_121_2 : decode jdk_65_method_121_code 2 = .ok (.arraylength, 1) := by decide +kernel
theorem d_jdk_65_m_121_3 : decode jdk_65_method_121_code 3 = .ok (.if_icmp .ne 11, 3) := by decide +kernel
theorem d_jdk_65_m_121_14 : decode jdk_65_method_121_code 14 = .ok (.iload_n 1, 1) := by decide +kernel
theorem d_jdk_65_m_121_15 : decode jdk_65_method_121_code 15 = .ok (.newarray .byte, 2) := by decide +kernel
theorem d_jdk_65_m_121_17 : decode jdk_65_method_121_code 17 = .ok (.astore_n 2, 1) := by decide +kernel
theorem d_jdk_65_m_121_18 : decode jdk_65_method_121_code 18 = .ok (.aload_n 0, 1) := by decide +kernel
theorem d_jdk_65_m_121_19 : decode jdk_65_method_121_code 19 = .ok (.iconst 0, 1) := by decide +kernel
theorem d_jdk_65_m_121_20 : decode jdk_65_method_121_code 20 = .ok (.aload_n 2, 1) := by decide +kernel
theorem d_jdk_65_m_121_21 : decode jdk_65_method_121_code 21 = .ok (.iconst 0, 1) := by decide +kernel
theorem d_jdk_65_m_121_22 : decode jdk_65_method_121_code 22 = .ok (.aload_n 0, 1) := by decide +kernel
theorem d_jdk_65_m_121_23 : decode jdk_65_method_121_code 23 = .ok (.arraylength, 1) := by decide +kernel
theorem d_jdk_65_m_121_24 : decode jdk_65_method_121_code 24 = .ok (.iload_n 1, 1) := by decide +kernel
theorem d_jdk_65_m_121_25 : decode jdk_65_method_121_code 25 = .ok (.invokestatic 304, 3) := by decide +kernel
theorem d_jdk_65_m_121_28 : decode jdk_65_method_121_code 28 = .ok (.invokestatic 150, 3) := by decide +kernel
theorem d_jdk_65_m_121_31 : decode jdk_65_method_121_code 31 = .ok (.aload_n 2, 1) := by decide +kernel
theorem d_jdk_65_m_121_32 : decode jdk_65_method_121_code 32 = .ok (.areturn, 1) := by decide +kernel
theorem d_prog_15_m_19_12 : decode prog_15_method_19_code 12 = .ok (.aload_n 0, 1) := by decide +kernel
theorem d_prog_15_m_19_13 : decode prog_15_method_19_code 13 = .ok (.aload_n 0, 1) := by decide +kernel
theorem d_prog_15_m_19_14 : decode prog_15_method_19_code 14 = .ok (.getfield 7, 3) := by decide +kernel
theorem d_prog_15_m_19_17 : decode prog_15_method_19_code 17 = .ok (.aload_n 0, 1) := by decide +kernel
theorem d_prog_15_m_19_18 : decode prog_15_method_19_code 18 = .ok (.getfield 7, 3) := by decide +kernel
theorem d_prog_15_m_19_21 : decode prog_15_method_19_code 21 = .ok (.arraylength, 1) := by decide +kernel
theorem d_prog_15_m_19_22 : decode prog_15_method_19_code 22 = .ok (.iconst 2, 1) := by decide +kernel
theorem d_prog_15_m_19_23 : decode prog_15_method_19_code 23 = .ok (.imul, 1) := by decide +kernel
theorem d_prog_15_m_19_24 : decode prog_15_method_19_code 24 = .ok (.invokestatic 105, 3) := by decide +kernel
theorem d_prog_15_m_19_27 : decode prog_15_method_19_code 27 = .ok (.putfield 7, 3) := by decide +kernel
theorem d_prog_15_m_4_0 : decode prog_15_method_4_code 0 = .ok (.aload_n 1, 1) := by decide +kernel
theorem d_prog_15_m_4_1 : decode prog_15_method_4_code 1 = .ok (.astore_n 2, 1) := by decide +kernel
theorem d_prog_15_m_4_2 : decode prog_15_method_4_code 2 = .ok (.aload_n 2, 1) := by decide +kernel
theorem d_prog_15_m_4_3 : decode prog_15_method_4_code 3 = .ok (.arraylength, 1) := by decide +kernel
theorem d_prog_15_m_4_4 : decode prog_15_method_4_code 4 = .ok (.istore_n 3, 1) := by decide +kernel
theorem d_prog_15_m_4_5 : decode prog_15_method_4_code 5 = .ok (.iconst 0, 1) := by decide +kernel
theorem d_prog_15_m_4_6 : decode prog_15_method_4_code 6 = .ok (.istore 4, 2) := by decide +kernel
theorem d_prog_15_m_4_8 : decode prog_15_method_4_code 8 = .ok (.iload 4, 2) := by decide +kernel
theorem d_prog_15_m_4_10 : decode prog_15_method_4_code 10 = .ok (.iload_n 3, 1) := by decide +kernel
theorem d_prog_15_m_4_11 : decode prog_15_method_4_code 11 = .ok (.if_icmp .ge 21, 3) := by decide +kernel
theorem d_prog_15_m_4_32 : decode prog_15_method_4_code 32 = .ok (.aload_n 0, 1) := by decide +kernel
theorem d_prog_15_m_4_33 : decode prog_15_method_4_code 33 = .ok (.areturn, 1) := by decide +kernel
theorem d_prog_15_m_4_14 : decode prog_15_method_4_code 14 = .ok (.aload_n 2, 1) := by decide +kernel
theorem d_prog_15_m_4_15 : decode prog_15_method_4_code 15 = .ok (.iload 4, 2) := by decide +kernel
theorem d_prog_15_m_4_17 : decode prog_15_method_4_code 17 = .ok (.baload, 1) := by decide +kernel
theorem d_prog_15_m_4_18 : decode prog_15_method_4_code 18 = .ok (.istore 5, 2) := by decide +kernel
theorem d_prog_15_m_4_20 : decode prog_15_method_4_code 20 = .ok (.aload_n 0, 1) := by decide +kernel
theorem d_prog_15_m_4_21 : decode prog_15_method_4_code 21 = .ok (.iload 5, 2) := by decide +kernel
theorem d_prog_15_m_4_23 : decode prog_15_method_4_code 23 = .ok (.invokevirtual 27, 3) := by decide +kernel
theorem d_prog_15_m_4_26 : decode prog_15_method_4_code 26 = .ok (.iinc 4 1, 3) := by decide +kernel
theorem d_prog_15_m_4_29 : decode prog_15_method_4_code 29 = .ok (.goto (-21), 3) := by decide +kernel
theorem d_prog_15_m_18_0 : decode prog_15_method_18_code 0 = .ok (.aload_n 0, 1) := by decide +kernel
theorem d_prog_15_m_18_1 : decode prog_15_method_18_code 1 = .ok (.getfield 7, 3) := by decide +kernel
theorem d_prog_15_m_18_4 : decode prog_15_method_18_code 4 = .ok (.iload_n 1, 1) := by decide +kernel
theorem d_prog_15_m_18_5 : decode prog_15_method_18_code 5 = .ok (.iload_n 2, 1) := by decide +kernel
theorem d_prog_15_m_18_6 : decode prog_15_method_18_code 6 = .ok (.i2b, 1) := by decide +kernel
theorem d_prog_15_m_18_7 : decode prog_15_method_18_code 7 = .ok (.bastore, 1) := by decide +kernel
theorem d_prog_15_m_18_8 : decode prog_15_method_18_code 8 = .ok (.aload_n 0, 1) := by decide +kernel
theorem d_prog_15_m_18_9 : decode prog_15_method_18_code 9 = .ok (.getfield 7, 3) := by decide +kernel
theorem d_prog_15_m_18_12 : decode prog_15_method_18_code 12 = .ok (.iload_n 1, 1) := by decide +kernel
theorem d_prog_15_m_18_13 : decode prog_15_method_18_code 13 = .ok (.iconst 1, 1) := by decide +kernel
theorem d_prog_15_m_18_14 : decode prog_15_method_18_code 14 = .ok (.iadd, 1) := by decide +kernel
theorem d_prog_15_m_18_15 : decode prog_15_method_18_code 15 = .ok (.iload_n 2, 1) := by decide +kernel
theorem d_prog_15_m_18_16 : decode prog_15_method_18_code 16 = .ok (.bipush 8, 2) := by decide +kernel
theorem d_prog_15_m_18_18 : decode prog_15_method_18_code 18 = .ok (.iushr, 1) := by decide +kernel
theorem d_prog_15_m_18_19 : decode prog_15_method_18_code 19 = .ok (.i2b, 1) := by decide +kernel
theorem d_prog_15_m_18_20 : decode prog_15_method_18_code 20 = .ok (.bastore, 1) := by decide +kernel
theorem d_prog_15_m_18_21 : decode prog_15_method_18_code 21 = .ok (.return_, 1) := by decide +kernel
theorem d_jdk_29_m_69_9 : decode jdk_29_method_69_code 9 = .ok (.iload_n 1, 1) := by decide +kernel
theorem d_jdk_65_m_121_6 : decode jdk_65_method_121_code 6 = .ok (.aload_n 0, 1) := by decide +kernel
theorem d_jdk_65_m_121_7 : decode jdk_65_method_121_code 7 = .ok (.invokevirtual 310, 3) := by decide +kernel
theorem d_jdk_65_m_121_10 : decode jdk_65_method_121_code 10 = .ok (.checkcast 311, 3) := by decide +kernel
theorem d_jdk_65_m_121_13 : decode jdk_65_method_121_code 13 = .ok (.areturn, 1) := by decide +kernel
theorem d_prog_15_m_12_0 : decode prog_15_method_12_code 0 = .ok (.aload_n 0, 1) := by decide +kernel
theorem d_prog_15_m_12_1 : decode prog_15_method_12_code 1 = .ok (.getfield 16, 3) := by decide +kernel
theorem d_prog_15_m_12_4 : decode prog_15_method_12_code 4 = .ok (.invokeinterface 89 1, 5) := by decide +kernel
theorem d_prog_15_m_12_9 : decode prog_15_method_12_code 9 = .ok (.ifCond .ne 25, 3) := by decide +kernel
theorem d_prog_15_m_12_34 : decode prog_15_method_12_code 34 = .ok (.aload_n 0, 1) := by decide +kernel
theorem d_prog_15_m_12_35 : decode prog_15_method_12_code 35 = .ok (.iconst 0, 1) := by decide +kernel
theorem d_prog_15_m_12_36 : decode prog_15_method_12_code 36 = .ok (.aload_n 0, 1) := by decide +kernel
theorem d_prog_15_m_12_37 : decode prog_15_method_12_code 37 = .ok (.getfield 55, 3) := by decide +kernel
theorem d_prog_15_m_12_40 : decode prog_15_method_12_code 40 = .ok (.invokevirtual 86, 3) := by decide +kernel
theorem d_prog_15_m_12_43 : decode prog_15_method_12_code 43 = .ok (.aload_n 0, 1) := by decide +kernel
theorem d_prog_15_m_12_44 : decode prog_15_method_12_code 44 = .ok (.iconst 2, 1) := by decide +kernel
theorem d_prog_15_m_12_45 : decode prog_15_method_12_code 45 = .ok (.aload_n 0, 1) := by decide +kernel
theorem d_prog_15_m_12_46 : decode prog_15_method_12_code 46 = .ok (.getfield 55, 3) := by decide +kernel
theorem d_prog_15_m_12_49 : decode prog_15_method_12_code 49 = .ok (.bipush 16, 2) := by decide +kernel
theorem d_prog_15_m_12_51 : decode prog_15_method_12_code 51 = .ok (.iushr, 1) := by decide +kernel
theorem d_prog_15_m_12_52 : decode prog_15_method_12_code 52 = .ok (.invokevirtual 86, 3) := by decide +kernel
theorem d_prog_15_m_12_55 : decode prog_15_method_12_code 55 = .ok (.aload_n 0, 1) := by decide +kernel
theorem d_prog_15_m_12_56 : decode prog_15_method_12_code 56 = .ok (.getfield 7, 3) := by decide +kernel
theorem d_prog_15_m_12_59 : decode prog_15_method_12_code 59 = .ok (.aload_n 0, 1) := by decide +kernel
theorem d_prog_15_m_12_60 : decode prog_15_method_12_code 60 = .ok (.getfield 55, 3) := by decide +kernel
theorem d_prog_15_m_12_63 : decode prog_15_method_12_code 63 = .ok (.invokestatic 105, 3) := by decide +kernel
theorem d_prog_15_m_12_66 : decode prog_15_method_12_code 66 = .ok (.areturn, 1) := by decide +kernel
theorem d_m_3_0 : decode method_3_code 0 = .ok (.iload_n 0, 1) := by decide +kernel
theorem d_m_3_1 : decode method_3_code 1 = .ok (.iconst 4, 1) := by decide +kernel
theorem d_m_3_2 : decode method_3_code 2 = .ok (.if_icmp .ge 12, 3) := by decide +kernel
theorem d_m_3_5 : decode method_3_code 5 = .ok (.iload_n 1, 1) := by decide +kernel
theorem d_m_3_6 : decode method_3_code 6 = .ok (.istore 6, 2) := by decide +kernel
theorem d_m_3_8 : decode method_3_code 8 = .ok (.iload_n 0, 1) := by decide +kernel
theorem d_m_3_9 : decode method_3_code 9 = .ok (.istore 7, 2) := by decide +kernel
theorem d_m_3_11 : decode method_3_code 11 = .ok (.goto 67, 3) := by decide +kernel
theorem d_m_3_78 : decode method_3_code 78 = .ok (.iload 6, 2) := by decide +kernel
theorem d_m_3_80 : decode method_3_code 80 = .ok (.bipush 8, 2) := by decide +kernel
theorem d_m_3_82 : decode method_3_code 82 = .ok (.iload 7, 2) := by decide +kernel
theorem d_m_3_84 : decode method_3_code 84 = .ok (.imul, 1) := by decide +kernel
theorem d_m_3_85 : decode method_3_code 85 = .ok (.iushr, 1) := by decide +kernel
theorem d_m_3_86 : decode method_3_code 86 = .ok (.i2b, 1) := by decide +kernel
theorem d_m_3_87 : decode method_3_code 87 = .ok (.ireturn, 1) := by decide +kernel
theorem d_m_3_14 : decode method_3_code 14 = .ok (.iload_n 0, 1) := by decide +kernel
theorem d_m_3_15 : decode method_3_code 15 = .ok (.bipush 6, 2) := by decide +kernel
theorem d_m_3_17 : decode method_3_code 17 = .ok (.if_icmp .ge 14, 3) := by decide +kernel
theorem d_m_3_20 : decode method_3_code 20 = .ok (.iload_n 2, 1) := by decide +kernel
theorem d_m_3_21 : decode method_3_code 21 = .ok (.istore 6, 2) := by decide +kernel
theorem d_m_3_23 : decode method_3_code 23 = .ok (.iload_n 0, 1) := by decide +kernel
theorem d_m_3_24 : decode method_3_code 24 = .ok (.iconst 4, 1) := by decide +kernel
theorem d_m_3_25 : decode method_3_code 25 = .ok (.isub, 1) := by decide +kernel
theorem d_m_3_26 : decode method_3_code 26 = .ok (.istore 7, 2) := by decide +kernel
theorem d_m_3_28 : decode method_3_code 28 = .ok (.goto 50, 3) := by decide +kernel
theorem d_m_3_31 : decode method_3_code 31 = .ok (.iload_n 0, 1) := by decide +kernel
theorem d_m_3_32 : decode method_3_code 32 = .ok (.bipush 8, 2) := by decide +kernel
theorem d_m_3_34 : decode method_3_code 34 = .ok (.if_icmp .ge 15, 3) := by decide +kernel
theorem d_m_3_37 : decode method_3_code 37 = .ok (.iload_n 3, 1) := by decide +kernel
theorem d_m_3_38 : decode method_3_code 38 = .ok (.istore 6, 2) := by decide +kernel
theorem d_m_3_40 : decode method_3_code 40 = .ok (.iload_n 0, 1) := by decide +kernel
theorem d_m_3_41 : decode method_3_code 41 = .ok (.bipush 6, 2) := by decide +kernel
theorem d_m_3_43 : decode method_3_code 43 = .ok (.isub, 1) := by decide +kernel
theorem d_m_3_44 : decode method_3_code 44 = .ok (.istore 7, 2) := by decide +kernel
theorem d_m_3_46 : decode method_3_code 46 = .ok (.goto 32, 3) := by decide +kernel
theorem d_m_3_49 : decode method_3_code 49 = .ok (.iload_n 0, 1) := by decide +kernel
theorem d_m_3_50 : decode method_3_code 50 = .ok (.bipush 12, 2) := by decide +kernel
theorem d_m_3_52 : decode method_3_code 52 = .ok (.if_icmp .ge 16, 3) := by decide +kernel
theorem d_m_3_55 : decode method_3_code 55 = .ok (.iload 4, 2) := by decide +kernel
theorem d_m_3_57 : decode method_3_code 57 = .ok (.istore 6, 2) := by decide +kernel
theorem d_m_3_59 : decode method_3_code 59 = .ok (.iload_n 0, 1) := by decide +kernel
theorem d_m_3_60 : decode method_3_code 60 = .ok (.bipush 8, 2) := by decide +kernel
theorem d_m_3_62 : decode method_3_code 62 = .ok (.isub, 1) := by decide +kernel
theorem d_m_3_63 : decode method_3_code 63 = .ok (.istore 7, 2) := by decide +kernel
theorem d_m_3_65 : decode method_3_code 65 = .ok (.goto 13, 3) := by decide +kernel
theorem d_m_3_68 : decode method_3_code 68 = .ok (.iload 5, 2) := by decide +kernel
theorem d_m_3_70 : decode method_3_code 70 = .ok (.istore 6, 2) := by decide +kernel
theorem d_m_3_72 : decode method_3_code 72 = .ok (.iload_n 0, 1) := by decide +kernel
theorem d_m_3_73 : decode method_3_code 73 = .ok (.bipush 12, 2) := by decide +kernel
theorem d_m_3_75 : decode method_3_code 75 = .ok (.isub, 1) := by decide +kernel
theorem d_m_3_76 : decode method_3_code 76 = .ok (.istore 7, 2) := by decide +kernel
theorem d_m_4_0 : decode method_4_code 0 = .ok (.iload_n 0, 1) := by decide +kernel
theorem d_m_4_1 : decode method_4_code 1 = .ok (.iload_n 1, 1) := by decide +kernel
theorem d_m_4_2 : decode method_4_code 2 = .ok (.iconst 1, 1) := by decide +kernel
theorem d_m_4_3 : decode method_4_code 3 = .ok (.isub, 1) := by decide +kernel
theorem d_m_4_4 : decode method_4_code 4 = .ok (.if_icmp .ne 6, 3) := by decide +kernel
theorem d_m_4_7 : decode method_4_code 7 = .ok (.iload 4, 2) := by decide +kernel
theorem d_m_4_9 : decode method_4_code 9 = .ok (.ireturn, 1) := by decide +kernel
theorem d_m_4_10 : decode method_4_code 10 = .ok (.iload_n 0, 1) := by decide +kernel
theorem d_m_4_11 : decode method_4_code 11 = .ok (.ifCond .ne 5, 3) := by decide +kernel
theorem d_m_4_14 : decode method_4_code 14 = .ok (.iload_n 3, 1) := by decide +kernel
theorem d_m_4_15 : decode method_4_code 15 = .ok (.ireturn, 1) := by decide +kernel
theorem d_m_4_16 : decode method_4_code 16 = .ok (.iload_n 0, 1) := by decide +kernel
theorem d_m_4_17 : decode method_4_code 17 = .ok (.iload_n 2, 1) := by decide +kernel
theorem d_m_4_18 : decode method_4_code 18 = .ok (.if_icmp .ne 6, 3) := by decide +kernel
theorem d_m_4_21 : decode method_4_code 21 = .ok (.iload 5, 2) := by decide +kernel
theorem d_m_4_23 : decode method_4_code 23 = .ok (.ireturn, 1) := by decide +kernel
theorem d_m_4_24 : decode method_4_code 24 = .ok (.iconst 0, 1) := by decide +kernel
theorem d_m_4_25 : decode method_4_code 25 = .ok (.ireturn, 1) := by decide +kernel
theorem pd_0 : parseMethodDescriptor "()V" = some ⟨[], none⟩ := by decide +kernel
theorem pd_1 : parseMethodDescriptor "(B)V" = some ⟨[.byte], none⟩ := by decide +kernel
theorem pd_2 : parseMethodDescriptor "(I)V" = some ⟨[.int], none⟩ := by decide +kernel
theorem pd_3 : parseMethodDescriptor "(II)I" = some ⟨[.int, .int], some .int⟩ := by decide +kernel
theorem pd_4 : parseMethodDescriptor "([BI)[B" = some ⟨[(.array .byte), .int], some (.array .byte)⟩ := by decide +kernel
theorem pd_5 : parseMethodDescriptor "()Z" = some ⟨[], some .boolean⟩ := by decide +kernel
theorem pd_6 : parseMethodDescriptor "(II)V" = some ⟨[.int, .int], none⟩ := by decide +kernel
theorem pd_7 : parseMethodDescriptor "(IIII)V" = some ⟨[.int, .int, .int, .int], none⟩ := by decide +kernel
theorem pd_8 : parseMethodDescriptor "([B)Lcom/example/glowworm/glowworm/NetlinkWriter;" = some ⟨[(.array .byte)], some (.object "com/example/glowworm/glowworm/NetlinkWriter")⟩ := by decide +kernel
theorem pd_9 : parseMethodDescriptor "()[B" = some ⟨[], some (.array .byte)⟩ := by decide +kernel
theorem pd_10 : parseMethodDescriptor "(IIIIII)B" = some ⟨[.int, .int, .int, .int, .int, .int], some .byte⟩ := by decide +kernel
theorem pd_11 : parseMethodDescriptor "(IIIBBB)B" = some ⟨[.int, .int, .int, .byte, .byte, .byte], some .byte⟩ := by decide +kernel
theorem pn_0 : plainName "java/util/AbstractCollection" = true := by first | (simp [plainName, overriddenIn]; done) | decide +kernel
theorem pn_1 : plainName "java/util/ArrayDeque" = true := by first | (simp [plainName, overriddenIn]; done) | decide +kernel
theorem pn_2 : plainName "com/example/glowworm/glowworm/NetlinkWriter" = true := by first | (simp [plainName, overriddenIn]; done) | decide +kernel
theorem pn_3 : plainName "java/util/Arrays" = true := by first | (simp [plainName, overriddenIn]; done) | decide +kernel
theorem pn_4 : plainName "com/example/glowworm/glowworm/NetlinkWriterRawPinLaw" = true := by first | (simp [plainName, overriddenIn]; done) | decide +kernel
theorem own_lt32 {x y : Int32} : x < y ↔ x.toInt < y.toInt := Int32.lt_iff_toInt_lt
theorem own_eq32 {x y : Int32} : x = y ↔ x.toInt = y.toInt := Int32.toInt_inj.symm
theorem own_i0 : (0 : Int32).toInt = 0 := rfl
theorem own_i1 : (1 : Int32).toInt = 1 := rfl
theorem own_nat {j z : Int32} (h0 : ¬ j < 0) (h : j < z) : j.toNatClampNeg < z.toNatClampNeg := by
  have a := nat_of h0
  have hz : ¬ z < 0 := by rw [own_lt32] at *; rw [own_i0] at *; omega
  have b := nat_of hz
  rw [own_lt32] at h; omega
theorem own_mx {x v : Int32} (h : (x &&& (2147483647 : Int32)) = v) : ¬ v < (0 : Int32) := by
  have e := c_mask x 2147483647 31 (by decide) (by decide)
  rw [h] at e; rw [own_lt32, own_i0]; omega
theorem own_mx1 {x v : Int32} (h : (x &&& (2147483647 : Int32)) = v) (h0 : ¬ v = 0) : ¬ v < (1 : Int32) := by
  have e := c_mask x 2147483647 31 (by decide) (by decide)
  rw [h] at e; rw [own_eq32, own_i0] at h0; rw [own_lt32, own_i1]; omega
theorem own_rem3 {x v : Int32} (h0 : ¬ x < (0 : Int32)) (h : (x % (3 : Int32)) = v) : v = (0 : Int32) ∨ v = (1 : Int32) ∨ v = (2 : Int32) := by
  have e := (c_irem x 3 3 rfl).1 (by rw [own_lt32, own_i0] at h0; omega)
  rw [h] at e
  have : v.toInt = 0 ∨ v.toInt = 1 ∨ v.toInt = 2 := by omega
  rcases this with q | q | q
  · left; exact Int32.toInt_inj.mp q
  · right; left; exact Int32.toInt_inj.mp q
  · right; right; exact Int32.toInt_inj.mp q
theorem own_ushr0 (x q : Int32) (k : Nat) (hk : q.toBitVec.toNat % 32 = k) (hk0 : 0 < k) : ¬ ((x.toUInt32 >>> (q &&& 31).toUInt32).toInt32) < (0 : Int32) := by
  have e := c_iushr x q k hk hk0
  rw [own_lt32, e, own_i0]
  have : 0 ≤ (x.toInt % 4294967296) / ((2 ^ k : Nat) : Int) := Int.ediv_nonneg (Int.emod_nonneg _ (by decide)) (Int.natCast_nonneg _)
  omega
theorem own_lt {n : Int32} {x y : Int32} (h : x ≤ y) (h1 : n < x) : n < y := by
  rw [own_lt32] at *; rw [Int32.le_iff_toInt_le] at h; omega
theorem own_up1 {n y : Int32} (z : Int32) (h0 : ¬ n < (0 : Int32)) (h1 : n < y) (hy : y ≤ (60 : Int32) := by decide) (hz : y.toInt + 1 ≤ z.toInt := by decide) : ¬ (n + (1 : Int32)) < (0 : Int32) ∧ (n + (1 : Int32)) < z := by
  rw [own_lt32, own_i0] at h0; rw [own_lt32] at h1; rw [Int32.le_iff_toInt_le] at hy
  have e60 : (60 : Int32).toInt = 60 := rfl
  have c := c_iadd n 1
  have r := rng32 (n + 1)
  rw [own_i1] at c
  rw [own_lt32, own_lt32, own_i0]; omega
theorem own_up2 {n y : Int32} (z : Int32) (h0 : ¬ n < (0 : Int32)) (h1 : n < y) (hy : y ≤ (60 : Int32) := by decide) (hz : y.toInt + 2 ≤ z.toInt := by decide) : ¬ ((n + (1 : Int32)) + (1 : Int32)) < (0 : Int32) ∧ ((n + (1 : Int32)) + (1 : Int32)) < z := by
  rw [own_lt32, own_i0] at h0; rw [own_lt32] at h1; rw [Int32.le_iff_toInt_le] at hy
  have e60 : (60 : Int32).toInt = 60 := rfl
  have c := c_iadd n 1
  have r := rng32 (n + 1)
  have c2 := c_iadd (n + 1) 1
  have r2 := rng32 (n + 1 + 1)
  rw [own_i1] at c c2
  rw [own_lt32, own_lt32, own_i0]; omega
theorem own_nat1 {i to : Int32} {k : Nat} (hi : ¬ i < (0 : Int32)) (hk : i.toInt + ((k + 1 : Nat) : Int) = to.toInt) : ¬ (i + (1 : Int32)) < (0 : Int32) ∧ (i + (1 : Int32)).toInt + (k : Int) = to.toInt ∧ (i + (1 : Int32)).toNatClampNeg = i.toNatClampNeg + 1 ∧ (i + (1 : Int32)).toInt = i.toInt + 1 := by
  have r := rng32 i
  have r2 := rng32 to
  have c := c_iadd i 1
  have r3 := rng32 (i + 1)
  rw [own_i1] at c
  rw [own_lt32, own_i0] at hi
  have e : (i + (1 : Int32)).toInt = i.toInt + 1 := by omega
  have h0 : ¬ (i + (1 : Int32)) < (0 : Int32) := by rw [own_lt32, e, own_i0]; omega
  refine ⟨h0, by rw [e]; omega, ?_, e⟩
  have a := nat_of h0
  have b := nat_of (j := i) (by rw [own_lt32, own_i0]; exact hi)
  omega
theorem own_ltzero {i to : Int32} (hi : ¬ i < (0 : Int32)) (hk : i.toInt + ((0 : Nat) : Int) = to.toInt) : ¬ i < to := by rw [own_lt32]; omega
theorem own_ltsucc {i to : Int32} {k : Nat} (hi : ¬ i < (0 : Int32)) (hk : i.toInt + ((k + 1 : Nat) : Int) = to.toInt) : i < to := by rw [own_lt32]; omega
theorem own_setat {l : List Value} {i : Nat} {v d : Value} (h : i < l.length) : (l.set i v).getD i d = v := by
  rw [List.getD_eq_getElem?_getD, List.getElem?_set_self h]; rfl
theorem own_setne {l : List Value} {i j : Nat} {v d : Value} (h : i ≠ j) : (l.set i v).getD j d = l.getD j d := by
  rw [List.getD_eq_getElem?_getD, List.getElem?_set_ne h, ← List.getD_eq_getElem?_getD]
theorem own_memb {a b b0 : Addr} {h0 : Heap} (hb : b = b0 ∨ h0.size ≤ b) : b ∈ [a, b0] ∨ h0.size ≤ b := hb.elim (fun q => Or.inl (by simp [q])) Or.inr
def own_RM (z n : Int32) (vs : List Value) (cc sl : Nat) : Prop := vs.length = z.toNatClampNeg ∧ n.toInt ≤ z.toInt ∧ n.toInt ≤ 142 ∧ ((z = (64 : Int32) ∧ cc = 0 ∧ sl = 0) ∨ (z = (128 : Int32) ∧ cc ≤ 1 ∧ sl ≤ 128) ∨ (z = (256 : Int32) ∧ cc ≤ 2 ∧ sl ≤ 384 ∧ 129 ≤ n.toInt))
theorem own_put3 {z n : Int32} {vs : List Value} {cc sl : Nat} (h : own_RM z n vs cc sl) : n < z ∨ (z = (64 : Int32) ∧ n = (64 : Int32)) ∨ (z = (128 : Int32) ∧ n = (128 : Int32)) := by
  obtain ⟨-, h2, h3, h4⟩ := h
  have t64 : (64 : Int32).toInt = 64 := rfl
  have t128 : (128 : Int32).toInt = 128 := rfl
  have t256 : (256 : Int32).toInt = 256 := rfl
  rw [own_lt32]
  rcases h4 with ⟨rfl, -, -⟩ | ⟨rfl, -, -⟩ | ⟨rfl, -, -, -⟩
  · by_cases q : n.toInt = 64
    · right; left; exact ⟨rfl, by rw [own_eq32, t64]; exact q⟩
    · left; omega
  · by_cases q : n.toInt = 128
    · right; right; exact ⟨rfl, by rw [own_eq32, t128]; exact q⟩
    · left; omega
  · left; omega
theorem own_n1 {n : Int32} (h0 : ¬ n < (0 : Int32)) (h : n.toInt < 142) : (n + (1 : Int32)).toInt = n.toInt + 1 ∧ ¬ (n + (1 : Int32)) < (0 : Int32) ∧ (n + (1 : Int32)).toNatClampNeg = n.toNatClampNeg + 1 := by
  have c := c_iadd n 1
  have r3 := rng32 (n + 1)
  rw [own_i1] at c
  have h0' := h0
  rw [own_lt32, own_i0] at h0
  have e : (n + (1 : Int32)).toInt = n.toInt + 1 := by omega
  have hn : ¬ (n + (1 : Int32)) < (0 : Int32) := by rw [own_lt32, e, own_i0]; omega
  have a := nat_of hn
  have b := nat_of h0'
  exact ⟨e, hn, by omega⟩
theorem own_RMs {z n : Int32} {vs : List Value} {cc sl : Nat} (h : own_RM z n vs cc sl) (hn0 : ¬ n < (0 : Int32)) (hlt : n < z) (hx : n.toInt < 142) {v : Value} : own_RM z (n + (1 : Int32)) (vs.set n.toNatClampNeg v) (cc + 0) (sl + 0) := by
  obtain ⟨h1, h2, h3, h4⟩ := h
  have e := (own_n1 hn0 hx).1
  rw [own_lt32] at hlt
  refine ⟨by rw [List.length_set]; exact h1, by omega, by omega, ?_⟩
  rcases h4 with ⟨a, b, c⟩ | ⟨a, b, c⟩ | ⟨a, b, c, d⟩
  · left; exact ⟨a, by omega, by omega⟩
  · right; left; exact ⟨a, by omega, by omega⟩
  · right; right; exact ⟨a, by omega, by omega, by omega⟩
theorem own_RMg1 {vs dt : List Value} {cc sl : Nat} (h : own_RM (64 : Int32) (64 : Int32) vs cc sl) (hl : dt.length = 128) : own_RM (128 : Int32) (65 : Int32) dt (cc + 1) (sl + 128) := by
  obtain ⟨-, -, -, h4⟩ := h
  refine ⟨hl, by decide, by decide, Or.inr (Or.inl ⟨rfl, ?_⟩)⟩
  rcases h4 with ⟨a, b, c⟩ | ⟨a, b, c⟩ | ⟨a, b, c, d⟩
  · omega
  · exact absurd a (by decide)
  · exact absurd a (by decide)
theorem own_RMg2 {vs dt : List Value} {cc sl : Nat} (h : own_RM (128 : Int32) (128 : Int32) vs cc sl) (hl : dt.length = 256) : own_RM (256 : Int32) (129 : Int32) dt (cc + 1) (sl + 256) := by
  obtain ⟨-, -, -, h4⟩ := h
  refine ⟨hl, by decide, by decide, Or.inr (Or.inr ⟨rfl, ?_⟩)⟩
  rcases h4 with ⟨a, b, c⟩ | ⟨a, b, c⟩ | ⟨a, b, c, d⟩
  · exact absurd a (by decide)
  · exact ⟨by omega, by omega, by decide⟩
  · exact absurd a (by decide)
theorem own_RMc {z n : Int32} {vs : List Value} {cc sl : Nat} (h : own_RM z n vs cc sl) : cc ≤ 2 ∧ sl ≤ 384 := by
  obtain ⟨-, -, -, h4⟩ := h
  rcases h4 with ⟨a, b, c⟩ | ⟨a, b, c⟩ | ⟨a, b, c, d⟩ <;> omega
theorem own_RMc1 {vs : List Value} {cc sl : Nat} (h : own_RM (64 : Int32) (64 : Int32) vs cc sl) : cc + 1 ≤ 2 ∧ sl + 128 ≤ 384 := own_RMc (own_RMg1 (dt := List.replicate 128 .null) h List.length_replicate)
theorem own_RMc2 {vs : List Value} {cc sl : Nat} (h : own_RM (128 : Int32) (128 : Int32) vs cc sl) : cc + 1 ≤ 2 ∧ sl + 256 ≤ 384 := own_RMc (own_RMg2 (dt := List.replicate 256 .null) h List.length_replicate)
theorem own_pv {ps : List Value} {G : Nat → Int32} {ml nn n i : Int32} (hP : ∀ j, j < ml.toNatClampNeg → ps.getD j (.int (0 : Int32)) = .int (G (nn.toNatClampNeg + j))) (hi : ¬ i < (0 : Int32)) (hlt : i < ml) (hn0 : ¬ nn < (0 : Int32)) (hn : n.toInt = nn.toInt + i.toInt) : ps.getD i.toNatClampNeg (.int (0 : Int32)) = .int (G n.toNatClampNeg) := by
  rw [hP _ (own_nat hi hlt)]
  have a := nat_of hi
  have b := nat_of hn0
  have hnz : ¬ n < (0 : Int32) := by rw [own_lt32, own_i0] at *; omega
  have c := nat_of hnz
  have e : nn.toNatClampNeg + i.toNatClampNeg = n.toNatClampNeg := by omega
  rw [e]
theorem own_Cs {vs : List Value} {G : Nat → Int32} {z n : Int32} (hC : ∀ j, j < n.toNatClampNeg → vs.getD j (.int (0 : Int32)) = .int (G j)) (hl : vs.length = z.toNatClampNeg) (hn0 : ¬ n < (0 : Int32)) (hlt : n < z) (hx : n.toInt < 142) : ∀ j, j < (n + (1 : Int32)).toNatClampNeg → (vs.set n.toNatClampNeg (.int (G n.toNatClampNeg))).getD j (.int (0 : Int32)) = .int (G j) := by
  intro j hj
  rw [(own_n1 hn0 hx).2.2] at hj
  by_cases q : n.toNatClampNeg = j
  · subst q; exact own_setat (by rw [hl]; exact own_nat hn0 hlt)
  · rw [own_setne q]; exact hC j (by omega)
theorem own_Cg {vs dt : List Value} {G : Nat → Int32} {N : Nat} (hC : ∀ j, j < N → vs.getD j (.int (0 : Int32)) = .int (G j)) (hg : ∀ j, j < N → dt.getD j (.int (0 : Int32)) = vs.getD j (.int (0 : Int32))) (hx : dt.getD N (.int (0 : Int32)) = .int (G N)) : ∀ j, j < N + 1 → dt.getD j (.int (0 : Int32)) = .int (G j) := by
  intro j hj
  by_cases q : j = N
  · subst q; exact hx
  · rw [hg j (by omega)]; exact hC j (by omega)
theorem own_nn1 {n nn i ml : Int32} {k : Nat} (hn0 : ¬ n < (0 : Int32)) (hn : n.toInt = nn.toInt + i.toInt) (hi : ¬ i < (0 : Int32)) (hk : i.toInt + ((k + 1 : Nat) : Int) = ml.toInt) (hx : nn.toInt + ml.toInt ≤ 142) : n.toInt < 142 ∧ (n + (1 : Int32)).toInt = nn.toInt + (i + (1 : Int32)).toInt := by
  have a : n.toInt < 142 := by omega
  refine ⟨a, ?_⟩
  rw [(own_n1 hn0 a).1, (own_nat1 hi hk).2.2.2]; omega
theorem own_end {n nn i ml : Int32} (hn : n.toInt = nn.toInt + i.toInt) (hk : i.toInt + ((0 : Nat) : Int) = ml.toInt) (h0 : ¬ nn < (0 : Int32)) (hx : nn.toInt + ml.toInt ≤ 142) (hm : ¬ ml < (0 : Int32)) : n = (nn + ml) := by
  rw [own_lt32, own_i0] at h0 hm
  have c := c_iadd nn ml
  have r := rng32 (nn + ml)
  rw [own_eq32]; omega
def own_H (y1 y2 y3 y4 : Int32) : Nat → Int32
  | 0 => (0 : Int32)
  | 1 => (0 : Int32)
  | 2 => (0 : Int32)
  | 3 => (0 : Int32)
  | 4 => (y1.toInt8.toInt32)
  | 5 => (((y1.toUInt32 >>> ((8 : Int32) &&& 31).toUInt32).toInt32).toInt8.toInt32)
  | 6 => (y2.toInt8.toInt32)
  | 7 => (((y2.toUInt32 >>> ((8 : Int32) &&& 31).toUInt32).toInt32).toInt8.toInt32)
  | 8 => (y3.toInt8.toInt32)
  | 9 => (((y3.toUInt32 >>> ((8 : Int32) &&& 31).toUInt32).toInt32).toInt8.toInt32)
  | 10 => (((y3.toUInt32 >>> ((16 : Int32) &&& 31).toUInt32).toInt32).toInt8.toInt32)
  | 11 => (((((y3.toUInt32 >>> ((16 : Int32) &&& 31).toUInt32).toInt32).toUInt32 >>> ((8 : Int32) &&& 31).toUInt32).toInt32).toInt8.toInt32)
  | 12 => (y4.toInt8.toInt32)
  | 13 => (((y4.toUInt32 >>> ((8 : Int32) &&& 31).toUInt32).toInt32).toInt8.toInt32)
  | 14 => (((y4.toUInt32 >>> ((16 : Int32) &&& 31).toUInt32).toInt32).toInt8.toInt32)
  | 15 => (((((y4.toUInt32 >>> ((16 : Int32) &&& 31).toUInt32).toInt32).toUInt32 >>> ((8 : Int32) &&& 31).toUInt32).toInt32).toInt8.toInt32)
  | _ => (0 : Int32)
def own_abN (j n mid : Nat) (f l m : Int32) : Int32 := if j + 1 = n then l else if j = 0 then f else if j = mid then m else (0 : Int32)
def own_ab (i n mid f l m : Int32) : Int32 := if i = (n - (1 : Int32)) then l else if i = (0 : Int32) then f else if i = mid then m else (0 : Int32)
def own_G (y1 y2 y3 y4 : Int32) (A B : Nat → Int32) (n1 j : Nat) : Int32 := if j < 16 then own_H y1 y2 y3 y4 j else if j < 16 + n1 then A (j - 16) else B (j - 16 - n1)
def own_T (n : Int32) (G : Nat → Int32) (j : Nat) : Int32 := if j = 0 then (n.toInt8.toInt32) else if j = 1 then (((n.toUInt32 >>> ((8 : Int32) &&& 31).toUInt32).toInt32).toInt8.toInt32) else if j = 2 then (((n.toUInt32 >>> ((16 : Int32) &&& 31).toUInt32).toInt32).toInt8.toInt32) else if j = 3 then (((((n.toUInt32 >>> ((16 : Int32) &&& 31).toUInt32).toInt32).toUInt32 >>> ((8 : Int32) &&& 31).toUInt32).toInt32).toInt8.toInt32) else G j
def own_hb (k N y1 y2 y3 y4 : Int32) : Int32 := if k < (4 : Int32) then (((N.toUInt32 >>> (((8 : Int32) * k) &&& 31).toUInt32).toInt32).toInt8.toInt32) else if k < (6 : Int32) then (((y1.toUInt32 >>> (((8 : Int32) * (k - (4 : Int32))) &&& 31).toUInt32).toInt32).toInt8.toInt32) else if k < (8 : Int32) then (((y2.toUInt32 >>> (((8 : Int32) * (k - (6 : Int32))) &&& 31).toUInt32).toInt32).toInt8.toInt32) else if k < (12 : Int32) then (((y3.toUInt32 >>> (((8 : Int32) * (k - (8 : Int32))) &&& 31).toUInt32).toInt32).toInt8.toInt32) else (((y4.toUInt32 >>> (((8 : Int32) * (k - (12 : Int32))) &&& 31).toUInt32).toInt32).toInt8.toInt32)
theorem own_Hb (y1 y2 y3 y4 : Int32) (j : Nat) : (own_H y1 y2 y3 y4 j).toInt8.toInt32 = own_H y1 y2 y3 y4 j := by
  unfold own_H
  split <;> first | decide | exact own_bb _
theorem own_abNb {n mid : Nat} {f l m : Int32} (hf : f.toInt8.toInt32 = f) (hl : l.toInt8.toInt32 = l) (hm : m.toInt8.toInt32 = m) (j : Nat) : (own_abN j n mid f l m).toInt8.toInt32 = own_abN j n mid f l m := by
  unfold own_abN
  split
  · exact hl
  · split
    · exact hf
    · split
      · exact hm
      · decide
theorem own_Gb {y1 y2 y3 y4 : Int32} {A B : Nat → Int32} {n1 : Nat} (hA : ∀ j, (A j).toInt8.toInt32 = A j) (hB : ∀ j, (B j).toInt8.toInt32 = B j) (j : Nat) : (own_G y1 y2 y3 y4 A B n1 j).toInt8.toInt32 = own_G y1 y2 y3 y4 A B n1 j := by
  unfold own_G
  split
  · exact own_Hb _ _ _ _ _
  · split
    · exact hA _
    · exact hB _
theorem own_n63 (x : Int32) : 0 ≤ (x &&& (63 : Int32)).toInt ∧ (x &&& (63 : Int32)).toInt ≤ 63 := by
  have e := c_mask x 63 6 (by decide) (by decide)
  rw [e]
  have : ((2 ^ 6 : Nat) : Int) = 64 := rfl
  omega
theorem own_n63v {x v : Int32} (h : (x &&& (63 : Int32)) = v) : ¬ v < (0 : Int32) ∧ v.toNatClampNeg ≤ 63 ∧ v.toInt ≤ 63 ∧ 0 ≤ v.toInt ∧ v.toInt = (v.toNatClampNeg : Int) := by
  have a := own_n63 x
  rw [h] at a
  have h0 : ¬ v < (0 : Int32) := by rw [own_lt32, own_i0]; omega
  have b := nat_of h0
  exact ⟨h0, by omega, a.2, a.1, b⟩
theorem own_nz64 {v : Int32} (h : (0 : Int32) < v) : v.toInt64 ≠ (0 : Int64) := by
  intro q
  have e := congrArg Int64.toInt q
  rw [c_i2l] at e
  rw [own_lt32, own_i0] at h
  have z : (0 : Int64).toInt = 0 := rfl
  omega
theorem own_pr {x : Int64} {n v : Int32} (h : ((x &&& (255 : Int64)) % n.toInt64).toInt32 = v) (hn : (0 : Int32) < n) (h63 : n.toInt ≤ 63) : ¬ v < (0 : Int32) ∧ v < n := by
  rw [own_lt32, own_i0] at hn
  have m := c_maskL x 255 8 (by decide) (by decide)
  have p8 : ((2 ^ 8 : Nat) : Int) = 256 := rfl
  rw [p8] at m
  have e : ((x &&& (255 : Int64)) % n.toInt64).toInt = (x &&& (255 : Int64)).toInt % n.toInt := by
    rw [Int64.toInt_mod, c_i2l]
    exact Int.tmod_eq_emod_of_nonneg (by omega)
  have c := c_l2i ((x &&& (255 : Int64)) % n.toInt64)
  rw [h, e] at c
  have r := rng32 v
  have g1 := Int.emod_nonneg (x &&& (255 : Int64)).toInt (b := n.toInt) (by omega)
  have g2 := Int.emod_lt_of_pos (x &&& (255 : Int64)).toInt (b := n.toInt) (by omega)
  rw [own_lt32, own_lt32, own_i0]; omega
theorem own_m1 {n : Int32} (hn : (0 : Int32) < n) : ¬ (n - (1 : Int32)) < (0 : Int32) ∧ (n - (1 : Int32)) < n ∧ (n - (1 : Int32)).toInt = n.toInt - 1 := by
  rw [own_lt32, own_i0] at hn
  have c := c_isub n 1
  have r := rng32 n
  have r2 := rng32 (n - 1)
  rw [own_i1] at c
  rw [own_lt32, own_lt32, own_i0]; omega
theorem own_63 {j n : Int32} (h0 : ¬ j < (0 : Int32)) (h : j < n) (h63 : n.toNatClampNeg ≤ 63) : j.toNatClampNeg < 63 := Nat.lt_of_lt_of_le (own_nat h0 h) h63
theorem own_arr {n p f l m : Int32} (hn : (0 : Int32) < n) (h63 : n.toNatClampNeg ≤ 63) (hp0 : ¬ p < (0 : Int32)) (hp : p < n) (j : Nat) (hj : j < n.toNatClampNeg) :
    (List.set (List.set (List.set (List.replicate 63 (Value.int (0 : Int32))) p.toNatClampNeg (.int m)) ((0 : Int32)).toNatClampNeg (.int f)) ((n - (1 : Int32))).toNatClampNeg (.int l)).getD j (.int (0 : Int32)) = .int (own_abN j n.toNatClampNeg p.toNatClampNeg f l m) := by
  have e0 : ((0 : Int32)).toNatClampNeg = 0 := rfl
  have a := own_m1 hn
  have b := nat_of a.1
  have hn0 : ¬ n < (0 : Int32) := by rw [own_lt32, own_i0] at *; omega
  have c := nat_of hn0
  have e1 : (n - (1 : Int32)).toNatClampNeg + 1 = n.toNatClampNeg := by have := a.2.2; omega
  rw [e0]
  unfold own_abN
  by_cases q1 : j + 1 = n.toNatClampNeg
  · rw [if_pos q1]
    have : (n - (1 : Int32)).toNatClampNeg = j := by omega
    rw [this]; exact own_setat (by simp; omega)
  · rw [if_neg q1, own_setne (by omega)]
    by_cases q2 : j = 0
    · subst q2; rw [if_pos rfl]; exact own_setat (by simp)
    · rw [if_neg q2, own_setne (by omega)]
      by_cases q3 : j = p.toNatClampNeg
      · rw [if_pos q3, q3]; exact own_setat (by simp; have := own_63 hp0 hp h63; omega)
      · rw [if_neg q3, own_setne (fun z => q3 z.symm)]
        rw [List.getD_eq_getElem?_getD, List.getElem?_replicate]
        split <;> rfl
theorem own_P1 {y1 y2 y3 y4 : Int32} {A B : Nat → Int32} {n : Int32} {ps : List Value} (h : ∀ j, j < n.toNatClampNeg → ps.getD j (.int (0 : Int32)) = .int (A j)) : ∀ j, j < n.toNatClampNeg → ps.getD j (.int (0 : Int32)) = .int (own_G y1 y2 y3 y4 A B n.toNatClampNeg ((16 : Int32).toNatClampNeg + j)) := by
  intro j hj
  rw [h j hj]
  have e : (16 : Int32).toNatClampNeg = 16 := rfl
  rw [e, own_G, if_neg (by omega), if_pos (by omega), Nat.add_sub_cancel_left]
theorem own_1617 {n : Int32} (h0 : 0 ≤ n.toInt) (h63 : n.toInt ≤ 63) : ((16 : Int32) + n).toInt = 16 + n.toInt ∧ ¬ ((16 : Int32) + n) < (0 : Int32) ∧ ((16 : Int32) + n).toNatClampNeg = 16 + n.toNatClampNeg := by
  have c := c_iadd 16 n
  have r := rng32 (16 + n)
  have e16 : (16 : Int32).toInt = 16 := rfl
  rw [e16] at c
  have e : ((16 : Int32) + n).toInt = 16 + n.toInt := by omega
  have hz : ¬ ((16 : Int32) + n) < (0 : Int32) := by rw [own_lt32, e, own_i0]; omega
  have a := nat_of hz
  have b := nat_of (j := n) (by rw [own_lt32, own_i0]; omega)
  exact ⟨e, hz, by omega⟩
theorem own_tot {n m : Int32} (h0 : 0 ≤ n.toInt) (h63 : n.toInt ≤ 63) (g0 : 0 ≤ m.toInt) (g63 : m.toInt ≤ 63) : (((16 : Int32) + n) + m).toInt = 16 + n.toInt + m.toInt ∧ ¬ (((16 : Int32) + n) + m) < (0 : Int32) := by
  have a := (own_1617 h0 h63).1
  have c := c_iadd (16 + n) m
  have r := rng32 (16 + n + m)
  rw [a] at c
  have e : (((16 : Int32) + n) + m).toInt = 16 + n.toInt + m.toInt := by omega
  exact ⟨e, by rw [own_lt32, e, own_i0]; omega⟩
theorem own_P2 {y1 y2 y3 y4 : Int32} {A B : Nat → Int32} {n m : Int32} {ps : List Value} (h0 : 0 ≤ n.toInt) (h63 : n.toInt ≤ 63) (h : ∀ j, j < m.toNatClampNeg → ps.getD j (.int (0 : Int32)) = .int (B j)) : ∀ j, j < m.toNatClampNeg → ps.getD j (.int (0 : Int32)) = .int (own_G y1 y2 y3 y4 A B n.toNatClampNeg (((16 : Int32) + n).toNatClampNeg + j)) := by
  intro j hj
  rw [h j hj, (own_1617 h0 h63).2.2, own_G, if_neg (by omega), if_neg (by omega)]
  have e : 16 + n.toNatClampNeg + j - 16 - n.toNatClampNeg = j := by omega
  rw [e]
theorem own_non {n : Int32} {ps : List Value} {A : Nat → Int32} (h0 : 0 ≤ n.toInt) (h : ¬ (0 : Int32) < n) : ∀ j, j < n.toNatClampNeg → ps.getD j (.int (0 : Int32)) = .int (A j) := by
  intro j hj
  rw [own_lt32, own_i0] at h
  have b := nat_of (j := n) (by rw [own_lt32, own_i0]; omega)
  omega
theorem own_RM0 {z n : Int32} {vs : List Value} (h : ∃ cc sl, own_RM z n vs cc sl) : own_RM z n vs 0 0 := by
  obtain ⟨cc, sl, h1, h2, h3, h4⟩ := h
  refine ⟨h1, h2, h3, ?_⟩
  rcases h4 with ⟨a, b, c⟩ | ⟨a, b, c⟩ | ⟨a, b, c, d⟩
  · left; exact ⟨a, rfl, rfl⟩
  · right; left; exact ⟨a, by omega, by omega⟩
  · right; right; exact ⟨a, by omega, by omega, d⟩
theorem own_RMz {z n : Int32} {vs : List Value} {cc sl : Nat} (h : own_RM z n vs cc sl) : 64 ≤ z.toInt ∧ z.toInt ≤ 256 ∧ n.toInt ≤ z.toInt ∧ n.toInt ≤ 142 ∧ vs.length = z.toNatClampNeg := by
  obtain ⟨h1, h2, h3, h4⟩ := h
  have t64 : (64 : Int32).toInt = 64 := rfl
  have t128 : (128 : Int32).toInt = 128 := rfl
  have t256 : (256 : Int32).toInt = 256 := rfl
  rcases h4 with ⟨rfl, -, -⟩ | ⟨rfl, -, -⟩ | ⟨rfl, -, -, -⟩ <;> exact ⟨by omega, by omega, h2, h3, h1⟩
theorem own_zlt {z k : Int32} (hz : 64 ≤ z.toInt) (hk : k.toInt < 64) : k < z := by rw [own_lt32]; omega
theorem own_ltne {n z : Int32} (h : n.toInt ≤ z.toInt) (hne : ¬ n = z) : n < z := by rw [own_eq32] at hne; rw [own_lt32]; omega
theorem own_le256 {z : Int32} (h0 : 64 ≤ z.toInt) (h : z.toInt ≤ 256) : z.toNatClampNeg ≤ 256 := by
  have b := nat_of (j := z) (by rw [own_lt32, own_i0]; omega)
  omega
theorem own_le144 {n : Int32} (h0 : ¬ n < (0 : Int32)) (h : n.toInt ≤ 142) : n.toNatClampNeg ≤ 144 := by
  have b := nat_of h0
  omega
theorem own_lez {n z : Int32} (h0 : ¬ n < (0 : Int32)) (h : n.toInt ≤ z.toInt) : n.toNatClampNeg ≤ z.toNatClampNeg := by
  have b := nat_of h0
  rw [own_lt32, own_i0] at h0
  have c := nat_of (j := z) (by rw [own_lt32, own_i0]; omega)
  omega
theorem own_T4 {n : Int32} {G : Nat → Int32} {vs : List Value} (hl : 4 ≤ vs.length) (hC : ∀ j, j < n.toNatClampNeg → vs.getD j (.int (0 : Int32)) = .int (G j)) (j : Nat) (hj : j < n.toNatClampNeg) :
    (List.set (List.set (List.set (List.set vs ((0 : Int32)).toNatClampNeg (.int (n.toInt8.toInt32))) ((1 : Int32)).toNatClampNeg (.int (((n.toUInt32 >>> ((8 : Int32) &&& 31).toUInt32).toInt32).toInt8.toInt32))) ((2 : Int32)).toNatClampNeg (.int (((n.toUInt32 >>> ((16 : Int32) &&& 31).toUInt32).toInt32).toInt8.toInt32))) ((3 : Int32)).toNatClampNeg (.int (((((n.toUInt32 >>> ((16 : Int32) &&& 31).toUInt32).toInt32).toUInt32 >>> ((8 : Int32) &&& 31).toUInt32).toInt32).toInt8.toInt32))).getD j (.int (0 : Int32)) = .int (own_T n G j) := by
  have e0 : ((0 : Int32)).toNatClampNeg = 0 := rfl
  have e1 : ((1 : Int32)).toNatClampNeg = 1 := rfl
  have e2 : ((2 : Int32)).toNatClampNeg = 2 := rfl
  have e3 : ((3 : Int32)).toNatClampNeg = 3 := rfl
  rw [e0, e1, e2, e3]
  unfold own_T
  match j, hj with
  | 0, _ => rw [own_setne (by omega), own_setne (by omega), own_setne (by omega), own_setat (by omega)]; rfl
  | 1, _ => rw [own_setne (by omega), own_setne (by omega), own_setat (by simp; omega)]; rfl
  | 2, _ => rw [own_setne (by omega), own_setat (by simp; omega)]; rfl
  | 3, _ => rw [own_setat (by simp; omega)]; rfl
  | k + 4, hj => rw [own_setne (by omega), own_setne (by omega), own_setne (by omega), own_setne (by omega), hC _ hj, if_neg (by omega), if_neg (by omega), if_neg (by omega), if_neg (by omega)]
theorem own_kr {x t k : Int32} (h : (((x.toUInt32 >>> ((12 : Int32) &&& 31).toUInt32).toInt32) % t) = k) (ht : 0 < t.toInt) : ¬ k < (0 : Int32) ∧ k < t := by
  have s := own_ushr0 x 12 12 (by decide) (by decide)
  rw [own_lt32, own_i0] at s
  have c := (c_iremV ((x.toUInt32 >>> ((12 : Int32) &&& 31).toUInt32).toInt32) t).1 (by omega) ht
  rw [h] at c
  rw [own_lt32, own_lt32, own_i0]; omega
theorem own_nzt {t : Int32} (ht : 0 < t.toInt) : t ≠ (0 : Int32) := by
  intro q; rw [q, own_i0] at ht; omega
theorem own_sh0 (x : Int32) : ((x.toUInt32 >>> ((0 : Int32) &&& 31).toUInt32).toInt32) = x := by
  have e : ((0 : Int32) &&& 31).toUInt32 = 0 := by decide
  rw [e]; simp
theorem own_sh24 (x : Int32) : ((((x.toUInt32 >>> ((16 : Int32) &&& 31).toUInt32).toInt32).toUInt32 >>> ((8 : Int32) &&& 31).toUInt32).toInt32) = ((x.toUInt32 >>> ((24 : Int32) &&& 31).toUInt32).toInt32) := by
  apply Int32.toInt_inj.mp
  rw [c_iushr _ 8 8 (by decide) (by decide), c_iushr x 16 16 (by decide) (by decide), c_iushr x 24 24 (by decide) (by decide)]
  have a : ((2 ^ 8 : Nat) : Int) = 256 := rfl
  have b : ((2 ^ 16 : Nat) : Int) = 65536 := rfl
  have c : ((2 ^ 24 : Nat) : Int) = 16777216 := rfl
  rw [a, b, c]; omega
theorem own_k16 {k : Int32} (h0 : ¬ k < (0 : Int32)) (h : k < (16 : Int32)) : k = (0 : Int32) ∨ k = (1 : Int32) ∨ k = (2 : Int32) ∨ k = (3 : Int32) ∨ k = (4 : Int32) ∨ k = (5 : Int32) ∨ k = (6 : Int32) ∨ k = (7 : Int32) ∨ k = (8 : Int32) ∨ k = (9 : Int32) ∨ k = (10 : Int32) ∨ k = (11 : Int32) ∨ k = (12 : Int32) ∨ k = (13 : Int32) ∨ k = (14 : Int32) ∨ k = (15 : Int32) := by
  have e16 : (16 : Int32).toInt = 16 := rfl
  rw [own_lt32, own_i0] at h0; rw [own_lt32, e16] at h
  have q : k.toInt = 0 ∨ k.toInt = 1 ∨ k.toInt = 2 ∨ k.toInt = 3 ∨ k.toInt = 4 ∨ k.toInt = 5 ∨ k.toInt = 6 ∨ k.toInt = 7 ∨ k.toInt = 8 ∨ k.toInt = 9 ∨ k.toInt = 10 ∨ k.toInt = 11 ∨ k.toInt = 12 ∨ k.toInt = 13 ∨ k.toInt = 14 ∨ k.toInt = 15 := by omega
  rcases q with q | q | q | q | q | q | q | q | q | q | q | q | q | q | q | q
  · left; exact Int32.toInt_inj.mp q
  · right; left; exact Int32.toInt_inj.mp q
  · right; right; left; exact Int32.toInt_inj.mp q
  · right; right; right; left; exact Int32.toInt_inj.mp q
  · right; right; right; right; left; exact Int32.toInt_inj.mp q
  · right; right; right; right; right; left; exact Int32.toInt_inj.mp q
  · right; right; right; right; right; right; left; exact Int32.toInt_inj.mp q
  · right; right; right; right; right; right; right; left; exact Int32.toInt_inj.mp q
  · right; right; right; right; right; right; right; right; left; exact Int32.toInt_inj.mp q
  · right; right; right; right; right; right; right; right; right; left; exact Int32.toInt_inj.mp q
  · right; right; right; right; right; right; right; right; right; right; left; exact Int32.toInt_inj.mp q
  · right; right; right; right; right; right; right; right; right; right; right; left; exact Int32.toInt_inj.mp q
  · right; right; right; right; right; right; right; right; right; right; right; right; left; exact Int32.toInt_inj.mp q
  · right; right; right; right; right; right; right; right; right; right; right; right; right; left; exact Int32.toInt_inj.mp q
  · right; right; right; right; right; right; right; right; right; right; right; right; right; right; left; exact Int32.toInt_inj.mp q
  · right; right; right; right; right; right; right; right; right; right; right; right; right; right; right; exact Int32.toInt_inj.mp q
theorem own_fin1 {N k y1 y2 y3 y4 : Int32} {A B : Nat → Int32} {n1 : Nat} (h0 : ¬ k < (0 : Int32)) (hk : k < (16 : Int32)) : own_T N (own_G y1 y2 y3 y4 A B n1) k.toNatClampNeg = own_hb k N y1 y2 y3 y4 := by
  rcases own_k16 h0 hk with rfl | rfl | rfl | rfl | rfl | rfl | rfl | rfl | rfl | rfl | rfl | rfl | rfl | rfl | rfl | rfl
  · have q : (N.toInt8.toInt32) = (((N.toUInt32 >>> ((0 : Int32) &&& 31).toUInt32).toInt32).toInt8.toInt32) := (congrArg (fun z : Int32 => z.toInt8.toInt32) (own_sh0 N).symm)
    exact q
  · have q : (((N.toUInt32 >>> ((8 : Int32) &&& 31).toUInt32).toInt32).toInt8.toInt32) = (((N.toUInt32 >>> ((8 : Int32) &&& 31).toUInt32).toInt32).toInt8.toInt32) := rfl
    exact q
  · have q : (((N.toUInt32 >>> ((16 : Int32) &&& 31).toUInt32).toInt32).toInt8.toInt32) = (((N.toUInt32 >>> ((16 : Int32) &&& 31).toUInt32).toInt32).toInt8.toInt32) := rfl
    exact q
  · have q : (((((N.toUInt32 >>> ((16 : Int32) &&& 31).toUInt32).toInt32).toUInt32 >>> ((8 : Int32) &&& 31).toUInt32).toInt32).toInt8.toInt32) = (((N.toUInt32 >>> ((24 : Int32) &&& 31).toUInt32).toInt32).toInt8.toInt32) := (congrArg (fun z : Int32 => z.toInt8.toInt32) (own_sh24 N))
    exact q
  · have q : (y1.toInt8.toInt32) = (((y1.toUInt32 >>> ((0 : Int32) &&& 31).toUInt32).toInt32).toInt8.toInt32) := (congrArg (fun z : Int32 => z.toInt8.toInt32) (own_sh0 y1).symm)
    exact q
  · have q : (((y1.toUInt32 >>> ((8 : Int32) &&& 31).toUInt32).toInt32).toInt8.toInt32) = (((y1.toUInt32 >>> ((8 : Int32) &&& 31).toUInt32).toInt32).toInt8.toInt32) := rfl
    exact q
  · have q : (y2.toInt8.toInt32) = (((y2.toUInt32 >>> ((0 : Int32) &&& 31).toUInt32).toInt32).toInt8.toInt32) := (congrArg (fun z : Int32 => z.toInt8.toInt32) (own_sh0 y2).symm)
    exact q
  · have q : (((y2.toUInt32 >>> ((8 : Int32) &&& 31).toUInt32).toInt32).toInt8.toInt32) = (((y2.toUInt32 >>> ((8 : Int32) &&& 31).toUInt32).toInt32).toInt8.toInt32) := rfl
    exact q
  · have q : (y3.toInt8.toInt32) = (((y3.toUInt32 >>> ((0 : Int32) &&& 31).toUInt32).toInt32).toInt8.toInt32) := (congrArg (fun z : Int32 => z.toInt8.toInt32) (own_sh0 y3).symm)
    exact q
  · have q : (((y3.toUInt32 >>> ((8 : Int32) &&& 31).toUInt32).toInt32).toInt8.toInt32) = (((y3.toUInt32 >>> ((8 : Int32) &&& 31).toUInt32).toInt32).toInt8.toInt32) := rfl
    exact q
  · have q : (((y3.toUInt32 >>> ((16 : Int32) &&& 31).toUInt32).toInt32).toInt8.toInt32) = (((y3.toUInt32 >>> ((16 : Int32) &&& 31).toUInt32).toInt32).toInt8.toInt32) := rfl
    exact q
  · have q : (((((y3.toUInt32 >>> ((16 : Int32) &&& 31).toUInt32).toInt32).toUInt32 >>> ((8 : Int32) &&& 31).toUInt32).toInt32).toInt8.toInt32) = (((y3.toUInt32 >>> ((24 : Int32) &&& 31).toUInt32).toInt32).toInt8.toInt32) := (congrArg (fun z : Int32 => z.toInt8.toInt32) (own_sh24 y3))
    exact q
  · have q : (y4.toInt8.toInt32) = (((y4.toUInt32 >>> ((0 : Int32) &&& 31).toUInt32).toInt32).toInt8.toInt32) := (congrArg (fun z : Int32 => z.toInt8.toInt32) (own_sh0 y4).symm)
    exact q
  · have q : (((y4.toUInt32 >>> ((8 : Int32) &&& 31).toUInt32).toInt32).toInt8.toInt32) = (((y4.toUInt32 >>> ((8 : Int32) &&& 31).toUInt32).toInt32).toInt8.toInt32) := rfl
    exact q
  · have q : (((y4.toUInt32 >>> ((16 : Int32) &&& 31).toUInt32).toInt32).toInt8.toInt32) = (((y4.toUInt32 >>> ((16 : Int32) &&& 31).toUInt32).toInt32).toInt8.toInt32) := rfl
    exact q
  · have q : (((((y4.toUInt32 >>> ((16 : Int32) &&& 31).toUInt32).toInt32).toUInt32 >>> ((8 : Int32) &&& 31).toUInt32).toInt32).toInt8.toInt32) = (((y4.toUInt32 >>> ((24 : Int32) &&& 31).toUInt32).toInt32).toInt8.toInt32) := (congrArg (fun z : Int32 => z.toInt8.toInt32) (own_sh24 y4))
    exact q
theorem own_nlt16 {k : Int32} (h : ¬ k < (16 : Int32)) : 16 ≤ k.toInt ∧ ¬ k < (0 : Int32) := by
  have e16 : (16 : Int32).toInt = 16 := rfl
  rw [own_lt32, e16] at h
  exact ⟨by omega, by rw [own_lt32, own_i0]; omega⟩
theorem own_TG {N : Int32} {G : Nat → Int32} {j : Nat} (h : 16 ≤ j) : own_T N G j = G j := by
  rw [own_T, if_neg (by omega), if_neg (by omega), if_neg (by omega), if_neg (by omega)]
theorem own_abE {i n mid f l m : Int32} (hi : ¬ i < (0 : Int32)) (hn : i < n) (hm : ¬ mid < (0 : Int32)) : own_abN i.toNatClampNeg n.toNatClampNeg mid.toNatClampNeg f l m = own_ab i n mid f l m := by
  have hnp : (0 : Int32) < n := by rw [own_lt32, own_i0] at *; omega
  have hn0 : ¬ n < (0 : Int32) := by rw [own_lt32, own_i0] at *; omega
  have a := nat_of hi
  have b := nat_of hn0
  have c := nat_of hm
  have d := (own_m1 hnp).2.2
  unfold own_abN own_ab
  have q1 : (i.toNatClampNeg + 1 = n.toNatClampNeg) ↔ i = (n - (1 : Int32)) := by rw [own_eq32]; omega
  have q2 : (i.toNatClampNeg = 0) ↔ i = (0 : Int32) := by rw [own_eq32, own_i0]; omega
  have q3 : (i.toNatClampNeg = mid.toNatClampNeg) ↔ i = mid := by rw [own_eq32]; omega
  simp only [q1, q2, q3]
theorem own_k16n {k : Int32} (h : ¬ k < (16 : Int32)) : (k - (16 : Int32)).toInt = k.toInt - 16 ∧ ¬ (k - (16 : Int32)) < (0 : Int32) ∧ (k - (16 : Int32)).toNatClampNeg = k.toNatClampNeg - 16 ∧ 16 ≤ k.toNatClampNeg := by
  obtain ⟨a, b⟩ := own_nlt16 h
  have c := c_isub k 16
  have e16 : (16 : Int32).toInt = 16 := rfl
  have r := rng32 k
  have r2 := rng32 (k - 16)
  rw [e16] at c
  have e : (k - (16 : Int32)).toInt = k.toInt - 16 := by omega
  have hz : ¬ (k - (16 : Int32)) < (0 : Int32) := by rw [own_lt32, e, own_i0]; omega
  have x := nat_of hz
  have y := nat_of b
  exact ⟨e, hz, by omega, by omega⟩
theorem own_fin2 {N k y1 y2 y3 y4 n p f l m : Int32} {B : Nat → Int32} (h16 : ¬ k < (16 : Int32)) (hk : k < ((16 : Int32) + n)) (h0 : 0 ≤ n.toInt) (h63 : n.toInt ≤ 63) (hp : ¬ p < (0 : Int32)) :
    own_T N (own_G y1 y2 y3 y4 (fun j => own_abN j n.toNatClampNeg p.toNatClampNeg f l m) B n.toNatClampNeg) k.toNatClampNeg = own_ab (k - (16 : Int32)) n p f l m := by
  obtain ⟨e, hz, hN, hge⟩ := own_k16n h16
  have t := own_1617 h0 h63
  have hlt := own_nat (own_nlt16 h16).2 hk
  rw [t.2.2] at hlt
  rw [own_TG hge, own_G, if_neg (by omega), if_pos hlt, ← hN]
  rw [own_lt32, t.1] at hk
  exact own_abE hz (by rw [own_lt32, e]; omega) hp
theorem own_fin3 {N k y1 y2 y3 y4 n o p f l m : Int32} {A : Nat → Int32} (h16 : ¬ k < (16 : Int32)) (hk : ¬ k < ((16 : Int32) + n)) (hkt : k < (((16 : Int32) + n) + o)) (h0 : 0 ≤ n.toInt) (h63 : n.toInt ≤ 63) (g0 : 0 ≤ o.toInt) (g63 : o.toInt ≤ 63) (hp : ¬ p < (0 : Int32)) :
    own_T N (own_G y1 y2 y3 y4 A (fun j => own_abN j o.toNatClampNeg p.toNatClampNeg f l m) n.toNatClampNeg) k.toNatClampNeg = own_ab ((k - (16 : Int32)) - n) o p f l m := by
  obtain ⟨e, hz, hN, hge⟩ := own_k16n h16
  have t := own_1617 h0 h63
  have t2 := own_tot h0 h63 g0 g63
  rw [own_lt32, t.1] at hk
  rw [own_lt32, t2.1] at hkt
  have c := c_isub (k - 16) n
  have r := rng32 k
  have r2 := rng32 (k - 16 - n)
  rw [e] at c
  have e2 : ((k - (16 : Int32)) - n).toInt = k.toInt - 16 - n.toInt := by omega
  have hz2 : ¬ ((k - (16 : Int32)) - n) < (0 : Int32) := by rw [own_lt32, e2, own_i0]; omega
  have x := nat_of hz2
  have y := nat_of (own_nlt16 h16).2
  have w := nat_of (j := n) (by rw [own_lt32, own_i0]; omega)
  rw [own_TG hge, own_G, if_neg (by omega), if_neg (by omega)]
  have e3 : k.toNatClampNeg - 16 - n.toNatClampNeg = ((k - (16 : Int32)) - n).toNatClampNeg := by omega
  rw [e3]
  exact own_abE hz2 (by rw [own_lt32, e2]; omega) hp

def Q_acini (Z : State) (a : Addr) (h0 : Heap) (n0 : Nat) (v : Option Value) (h : Heap) (L : List Loc) : Prop := v = none ∧ Fr n0 L ∧ h = h0
theorem ef_acini (m : MethodId) (x0 : Addr) : entryFrame m #[(.ref x0)] 1 = mkF m 0 #[.val (.ref x0)] [] := by first | (simp [entryFrame, mkF, argsToLocals, Value.category]; done) | rfl
set_option maxRecDepth 65536 in
set_option maxHeartbeats 40000000 in
theorem rm_acini (l : Launch) (Z : State) (a0 : Array Value) (hw : ∀ d ∈ tables_1, d.before a0 Z = true) (a : Addr) (h0 : Heap) (n0 : Nat) (Z0 : n0 ≤ h0.size) :
    Ct l Z (⟨"java/util/AbstractCollection", "<init>", "()V"⟩ : MethodName) jdk_22_method_1_code 1 none [] ({ frames := 1, cells := 0, slots := 0, locals := 12 } : Room) #[(.ref a)] h0 (Q_acini Z a h0 n0) := by
  refine own_body (plainFor_of_name pn_0) (fun m => ef_acini m a) ?_
  intro p e s m below meth c T0 hx hby hml hZ hown hnm hret hlk X0 e0
  have N0 := Fr.nil n0
  refine g_aloadN X0 hx (hb hby d_jdk_22_m_1_0) rfl rfl rfl ?_
  refine g_initO X0 hx hZ hown (hw _ (List.mem_of_getElem? (i := 25) rfl)) (hw _ (List.mem_of_getElem? (i := 9) rfl)) (hw _ (List.mem_of_getElem? (i := 10) rfl)) e0 (by rw [hml]; rfl) (hb hby d_jdk_22_m_1_1) rfl (by decide) (W := 0) (Nat.le_of_eq rfl) (by decide) fun T1 X1 e1 => ?_
  exact g_ret X1 hx hret hlk (hb hby d_jdk_22_m_1_4) (by decide) (by decide) (by rw [e1]; exact ⟨rfl, N0, rfl⟩)
def Q_dqini (Z : State) (a : Addr) (h0 : Heap) (n0 : Nat) (v : Option Value) (h : Heap) (L : List Loc) : Prop := v = none ∧ Fr n0 L ∧ Keep h0 h [a] ∧ Exa Z h a "java/util/ArrayDeque" ∧ Fld Z h a "java/util/ArrayDeque" "head" "I" (.int (0 : Int32)) ∧ Fld Z h a "java/util/ArrayDeque" "tail" "I" (.int (0 : Int32))
theorem ef_dqini (m : MethodId) (x0 : Addr) : entryFrame m #[(.ref x0)] 1 = mkF m 0 #[.val (.ref x0)] [] := by first | (simp [entryFrame, mkF, argsToLocals, Value.category]; done) | rfl
set_option maxRecDepth 65536 in
set_option maxHeartbeats 40000000 in
theorem rm_dqini (l : Launch) (Z : State) (a0 : Array Value) (hw : ∀ d ∈ tables_1, d.before a0 Z = true) (a : Addr) (h0 : Heap) (n0 : Nat) (Z0 : n0 ≤ h0.size) (F_head_a : Fld Z h0 a "java/util/ArrayDeque" "head" "I" (.int (0 : Int32))) (F_tail_a : Fld Z h0 a "java/util/ArrayDeque" "tail" "I" (.int (0 : Int32))) (F_elements_a : Fld Z h0 a "java/util/ArrayDeque" "elements" "[Ljava/lang/Object;" .null) (E_a : Exa Z h0 a "java/util/ArrayDeque") (g_a : n0 ≤ a) :
    Ct l Z (⟨"java/util/ArrayDeque", "<init>", "()V"⟩ : MethodName) jdk_21_method_3_code 1 none [] ({ frames := 2, cells := 1, slots := 17, locals := 24 } : Room) #[(.ref a)] h0 (Q_dqini Z a h0 n0) := by
  refine own_body (plainFor_of_name pn_1) (fun m => ef_dqini m a) ?_
  intro p e s m below meth c T0 hx hby hml hZ hown hnm hret hlk X0 e0
  have N0 := Fr.nil n0
  refine g_aloadN X0 hx (hb hby d_jdk_21_m_3_0) rfl rfl rfl ?_
  refine g_special X0 hx hZ hown rfl (hw _ (List.mem_of_getElem? (i := 19) rfl)) (hw _ (List.mem_of_getElem? (i := 20) rfl)) (hw _ (List.mem_of_getElem? (i := 23) rfl)) (hw _ (List.mem_of_getElem? (i := 24) rfl)) (by decide) (a := a) (rm_acini l Z a0 hw a h0 n0 Z0) (by rw [hml]; rfl) e0 [] rfl rfl (W := 0) (Nat.le_of_eq rfl) (by decide) (by decide) (by decide) (by decide) (lenOf pd_0 rfl) (hb hby d_jdk_21_m_3_1) rfl fun v1 T1 L1 X1 hQ1 => ?_
  obtain ⟨rfl, Nq1, eh1⟩ := hQ1
  have N1 := Fr.app N0 Nq1
  show Ga _ _ _ _ _ _ _ _ _ _ _ []
  refine g_aloadN X1 hx (hb hby d_jdk_21_m_3_4) rfl rfl rfl ?_
  refine g_bipush X1 hx (r := (17 : Int32)) (hb hby d_jdk_21_m_3_5) rfl rfl ?_
  refine g_anewarray X1 hx hZ hown (hw _ (List.mem_of_getElem? (i := 26) rfl)) (hw _ (List.mem_of_getElem? (i := 27) rfl)) eh1 (by decide) 17 (by decide) (by decide) (by decide) (by decide) (ad := "[Ljava/lang/Object;") (by decide) (hb hby d_jdk_21_m_3_7) rfl fun T2 h2 b2 ka2 X2 e2 q2 E2 A2 O2 V2 => ?_
  have ne_a_b2 : a ≠ b2 := own_ne F_head_a.lt q2
  have g_b2 : n0 ≤ b2 := Nat.le_trans Z0 (Nat.le_of_eq q2.symm)
  have sz_b2 : h0.size ≤ b2 := Nat.le_trans (Keep.refl h0 [a]).1 (Nat.le_of_eq q2.symm)
  have Z2 : n0 ≤ h2.size := Nat.le_trans Z0 E2.1
  have kk2 : Keep h0 h2 [a] := (Keep.refl h0 [a]).ext E2
  have Vn2 : Arv Z h2 b2 ka2 (.object "java/lang/Object") (17 : Int32) [.null, .null, .null, .null, .null, .null, .null, .null, .null, .null, .null, .null, .null, .null, .null, .null, .null] .null := V2
  have f4 : Fld Z h2 a "java/util/ArrayDeque" "elements" "[Ljava/lang/Object;" .null := (F_elements_a.ext E2)
  have f5 : Exa Z h2 a "java/util/ArrayDeque" := (E_a.ext E2)
  refine g_putF X2 hx hZ hown (host := "") (Or.inl (hw _ (List.mem_of_getElem? (i := 28) rfl))) Via.refl e2 f4 f5 (Or.inl (hw _ (List.mem_of_getElem? (i := 29) rfl))) (hw _ (List.mem_of_getElem? (i := 14) rfl)) (ty := (.array (.object "java/lang/Object"))) (by decide) rfl rfl (hb hby d_jdk_21_m_3_10) rfl fun T3 h3 X3 e3 W3 F3 => ?_
  have kk3 : Keep h0 h3 [a] := kk2.wr W3 (Or.inl (by simp))
  have N3 := Fr.snoc X3 N1 g_a
  have Z3 : n0 ≤ h3.size := by rw [W3.size]; exact Z2
  have f6 : Exa Z h3 a "java/util/ArrayDeque" := (f5.wr W3)
  have f7 : Fld Z h3 a "java/util/ArrayDeque" "head" "I" (.int (0 : Int32)) := ((F_head_a.ext E2).other W3 (Or.inr (slot_ne (Or.inl (hw _ (List.mem_of_getElem? (i := 66) rfl))) (Or.inl (hw _ (List.mem_of_getElem? (i := 29) rfl))) (by decide) (t := .int) (t' := (.array (.object "java/lang/Object"))) (by decide) (by decide))))
  have f8 : Fld Z h3 a "java/util/ArrayDeque" "tail" "I" (.int (0 : Int32)) := ((F_tail_a.ext E2).other W3 (Or.inr (slot_ne (Or.inl (hw _ (List.mem_of_getElem? (i := 68) rfl))) (Or.inl (hw _ (List.mem_of_getElem? (i := 29) rfl))) (by decide) (t := .int) (t' := (.array (.object "java/lang/Object"))) (by decide) (by decide))))
  exact g_ret X3 hx hret hlk (hb hby d_jdk_21_m_3_13) (by decide) (by decide) (by rw [e3]; exact ⟨rfl, N3, kk3, f6, f7, f8⟩)
def Q_dqemp (Z : State) (a : Addr) (h0 : Heap) (n0 : Nat) (v : Option Value) (h : Heap) (L : List Loc) : Prop := v = some (.int (1 : Int32)) ∧ Fr n0 L ∧ h = h0
theorem ef_dqemp (m : MethodId) (x0 : Addr) : entryFrame m #[(.ref x0)] 1 = mkF m 0 #[.val (.ref x0)] [] := by first | (simp [entryFrame, mkF, argsToLocals, Value.category]; done) | rfl
set_option maxRecDepth 65536 in
set_option maxHeartbeats 40000000 in
theorem rm_dqemp (l : Launch) (Z : State) (a0 : Array Value) (hw : ∀ d ∈ tables_1, d.before a0 Z = true) (a : Addr) (h0 : Heap) (n0 : Nat) (Z0 : n0 ≤ h0.size) (F_head_a : Fld Z h0 a "java/util/ArrayDeque" "head" "I" (.int (0 : Int32))) (F_tail_a : Fld Z h0 a "java/util/ArrayDeque" "tail" "I" (.int (0 : Int32))) :
    Ct l Z (⟨"java/util/ArrayDeque", "isEmpty", "()Z"⟩ : MethodName) jdk_21_method_38_code 1 (some .boolean) [] ({ frames := 0, cells := 0, slots := 0, locals := 0 } : Room) #[(.ref a)] h0 (Q_dqemp Z a h0 n0) := by
  refine own_body (plainFor_of_name pn_1) (fun m => ef_dqemp m a) ?_
  intro p e s m below meth c T0 hx hby hml hZ hown hnm hret hlk X0 e0
  have N0 := Fr.nil n0
  refine g_aloadN X0 hx (hb hby d_jdk_21_m_38_0) rfl rfl rfl ?_
  refine g_getF X0 hx hZ hown (host := "") (Or.inl (hw _ (List.mem_of_getElem? (i := 65) rfl))) Via.refl e0 F_head_a (hb hby d_jdk_21_m_38_1) rfl fun T1 X1 e1 => ?_
  refine g_aloadN X1 hx (hb hby d_jdk_21_m_38_4) rfl rfl rfl ?_
  refine g_getF X1 hx hZ hown (host := "") (Or.inl (hw _ (List.mem_of_getElem? (i := 67) rfl))) Via.refl e1 F_tail_a (hb hby d_jdk_21_m_38_5) rfl fun T2 X2 e2 => ?_
  refine g_icmpN X2 hx (hb hby d_jdk_21_m_38_8) rfl (XT.ii_ne_f (by decide : (0 : Int32) = (0 : Int32))) ?_
  refine g_iconst X2 hx (r := (1 : Int32)) (hb hby d_jdk_21_m_38_11) rfl rfl ?_
  refine g_goto X2 hx (q := 16) (hb hby d_jdk_21_m_38_12) (by decide) (by decide) ?_
  exact g_retN X2 hx (t := .boolean) (r := (1 : Int32)) hret (by simp) hlk (hb hby d_jdk_21_m_38_16) rfl (by decide) (by decide) (by rw [e2]; exact ⟨rfl, N0, rfl⟩)
def Q_put (Z : State) (a : Addr) (b : Addr) (dq : Addr) (ka : ClassId) (n : Int32) (vs : List Value) (x : Int32) (h0 : Heap) (n0 : Nat) (v : Option Value) (h : Heap) (L : List Loc) : Prop := v = none ∧ Fr n0 L ∧ Keep h0 h [a, b] ∧ Exa Z h a "com/example/glowworm/glowworm/NetlinkWriter" ∧ Fld Z h a "com/example/glowworm/glowworm/NetlinkWriter" "length" "I" (.int (n + (1 : Int32))) ∧ Fld Z h a "com/example/glowworm/glowworm/NetlinkWriter" "bytes" "[B" (.ref b) ∧ Fld Z h a "com/example/glowworm/glowworm/NetlinkWriter" "openNests" "Ljava/util/Deque;" (.ref dq) ∧ Arv Z h b ka .byte (64 : Int32) (List.set vs (n).toNatClampNeg (.int x)) (.int (0 : Int32))
theorem ef_put (m : MethodId) (x0 : Addr) (x1 : Int32) : entryFrame m #[(.ref x0), (.int x1)] 2 = mkF m 0 #[.val (.ref x0), .val (.int x1)] [] := by first | (simp [entryFrame, mkF, argsToLocals, Value.category]; done) | rfl
set_option maxRecDepth 65536 in
set_option maxHeartbeats 40000000 in
theorem rm_put (l : Launch) (Z : State) (a0 : Array Value) (hw : ∀ d ∈ tables_1, d.before a0 Z = true) (a : Addr) (b : Addr) (dq : Addr) (ka : ClassId) (n : Int32) (vs : List Value) (x : Int32) (h0 : Heap) (n0 : Nat) (Z0 : n0 ≤ h0.size) (F_length_a : Fld Z h0 a "com/example/glowworm/glowworm/NetlinkWriter" "length" "I" (.int n)) (F_bytes_a : Fld Z h0 a "com/example/glowworm/glowworm/NetlinkWriter" "bytes" "[B" (.ref b)) (F_openNests_a : Fld Z h0 a "com/example/glowworm/glowworm/NetlinkWriter" "openNests" "Ljava/util/Deque;" (.ref dq)) (V_b : Arv Z h0 b ka .byte (64 : Int32) vs (.int (0 : Int32))) (E_a : Exa Z h0 a "com/example/glowworm/glowworm/NetlinkWriter") (g_a : n0 ≤ a) (g_b : n0 ≤ b) (ne_a_b : a ≠ b) (hn0 : ¬ n < (0 : Int32)) (hn1 : n < (64 : Int32)) (hle : vs.length = 64) (hxb : x.toInt8.toInt32 = x) :
    Ct l Z (⟨"com/example/glowworm/glowworm/NetlinkWriter", "put", "(B)V"⟩ : MethodName) prog_15_method_19_code 2 none [] ({ frames := 0, cells := 0, slots := 0, locals := 0 } : Room) #[(.ref a), (.int x)] h0 (Q_put Z a b dq ka n vs x h0 n0) := by
  refine own_body (plainFor_of_name pn_2) (fun m => ef_put m a x) ?_
  intro p e s m below meth c T0 hx hby hml hZ hown hnm hret hlk X0 e0
  have N0 := Fr.nil n0
  refine g_aloadN X0 hx (hb hby d_prog_15_m_19_0) rfl rfl rfl ?_
  refine g_getF X0 hx hZ hown (host := "") (Or.inl (hw _ (List.mem_of_getElem? (i := 44) rfl))) Via.refl e0 F_length_a (hb hby d_prog_15_m_19_1) rfl fun T1 X1 e1 => ?_
  refine g_aloadN X1 hx (hb hby d_prog_15_m_19_4) rfl rfl rfl ?_
  refine g_getF X1 hx hZ hown (host := "") (Or.inl (hw _ (List.mem_of_getElem? (i := 11) rfl))) Via.refl e1 F_bytes_a (hb hby d_prog_15_m_19_5) rfl fun T2 X2 e2 => ?_
  refine g_len X2 hx hZ e2 V_b (hb hby d_prog_15_m_19_8) rfl ?_
  have hc9 : ¬ n = (64 : Int32) := (fun q => absurd hn1 (by rw [q]; decide))
  refine g_icmpY X2 hx (q := 30) (hb hby d_prog_15_m_19_9) (XT.ii_ne_t hc9) (by decide) (by decide) ?_
  refine g_aloadN X2 hx (hb hby d_prog_15_m_19_30) rfl rfl rfl ?_
  refine g_getF X2 hx hZ hown (host := "") (Or.inl (hw _ (List.mem_of_getElem? (i := 11) rfl))) Via.refl e2 F_bytes_a (hb hby d_prog_15_m_19_31) rfl fun T3 X3 e3 => ?_
  refine g_aloadN X3 hx (hb hby d_prog_15_m_19_34) rfl rfl rfl ?_
  refine g_dup X3 hx (hb hby d_prog_15_m_19_35) rfl rfl ?_
  refine g_getF X3 hx hZ hown (host := "") (Or.inl (hw _ (List.mem_of_getElem? (i := 44) rfl))) Via.refl e3 F_length_a (hb hby d_prog_15_m_19_36) rfl fun T4 X4 e4 => ?_
  refine g_dup_x1 X4 hx (hb hby d_prog_15_m_19_39) rfl rfl rfl ?_
  refine g_iconst X4 hx (r := (1 : Int32)) (hb hby d_prog_15_m_19_40) rfl rfl ?_
  refine g_iadd X4 hx (hb hby d_prog_15_m_19_41) rfl rfl ?_
  refine g_putF X4 hx hZ hown (host := "") (Or.inl (hw _ (List.mem_of_getElem? (i := 44) rfl))) Via.refl e4 F_length_a E_a (Or.inl (hw _ (List.mem_of_getElem? (i := 45) rfl))) (hw _ (List.mem_of_getElem? (i := 3) rfl)) (ty := .int) (by decide) rfl rfl (hb hby d_prog_15_m_19_42) rfl fun T5 h5 X5 e5 W5 F5 => ?_
  have kk5 : Keep h0 h5 [a, b] := (Keep.refl h0 [a, b]).wr W5 (Or.inl (by simp))
  have N5 := Fr.snoc X5 N0 g_a
  have Z5 : n0 ≤ h5.size := by rw [W5.size]; exact Z0
  refine g_iloadN X5 hx (hb hby d_prog_15_m_19_45) rfl rfl ?_
  have f6 : Arv Z h5 b ka .byte (64 : Int32) vs (.int (0 : Int32)) := (V_b.other W5 (Ne.symm ne_a_b))
  refine g_bastore X5 hx hZ e5 f6 ⟨hn0, hn1⟩ (by rw [hle]; exact own_nat hn0 hn1) (hb hby d_prog_15_m_19_46) rfl fun T7 h7 X7 e7 W7 V7 => ?_
  rw [own_nar, hxb] at V7
  have Vn7 : Arv Z h7 b ka .byte (64 : Int32) (List.set vs (n).toNatClampNeg (.int x)) (.int (0 : Int32)) := V7
  have kk7 : Keep h0 h7 [a, b] := kk5.wr W7 (Or.inl (by simp))
  have N7 := Fr.snoc X7 N5 g_b
  have Z7 : n0 ≤ h7.size := by rw [W7.size]; exact Z5
  have f8 : Exa Z h7 a "com/example/glowworm/glowworm/NetlinkWriter" := ((E_a.wr W5).wr W7)
  have f9 : Fld Z h7 a "com/example/glowworm/glowworm/NetlinkWriter" "length" "I" (.int (n + (1 : Int32))) := (F5.other W7 (Or.inl ne_a_b))
  have f10 : Fld Z h7 a "com/example/glowworm/glowworm/NetlinkWriter" "bytes" "[B" (.ref b) := ((F_bytes_a.other W5 (Or.inr (slot_ne (Or.inl (hw _ (List.mem_of_getElem? (i := 12) rfl))) (Or.inl (hw _ (List.mem_of_getElem? (i := 45) rfl))) (by decide) (t := (.array .byte)) (t' := .int) (by decide) (by decide)))).other W7 (Or.inl ne_a_b))
  have f11 : Fld Z h7 a "com/example/glowworm/glowworm/NetlinkWriter" "openNests" "Ljava/util/Deque;" (.ref dq) := ((F_openNests_a.other W5 (Or.inr (slot_ne (Or.inr (hw _ (List.mem_of_getElem? (i := 31) rfl))) (Or.inl (hw _ (List.mem_of_getElem? (i := 45) rfl))) (by decide) (t := (.object "java/util/Deque")) (t' := .int) (by decide) (by decide)))).other W7 (Or.inl ne_a_b))
  exact g_ret X7 hx hret hlk (hb hby d_prog_15_m_19_47) (by decide) (by decide) (by rw [e7]; exact ⟨rfl, N7, kk7, f8, f9, f10, f11, Vn7⟩)
def Q_pu16 (Z : State) (a : Addr) (b : Addr) (dq : Addr) (ka : ClassId) (n : Int32) (vs : List Value) (x : Int32) (h0 : Heap) (n0 : Nat) (v : Option Value) (h : Heap) (L : List Loc) : Prop := v = none ∧ Fr n0 L ∧ Keep h0 h [a, b] ∧ Exa Z h a "com/example/glowworm/glowworm/NetlinkWriter" ∧ Fld Z h a "com/example/glowworm/glowworm/NetlinkWriter" "length" "I" (.int ((n + (1 : Int32)) + (1 : Int32))) ∧ Fld Z h a "com/example/glowworm/glowworm/NetlinkWriter" "bytes" "[B" (.ref b) ∧ Fld Z h a "com/example/glowworm/glowworm/NetlinkWriter" "openNests" "Ljava/util/Deque;" (.ref dq) ∧ Arv Z h b ka .byte (64 : Int32) (List.set (List.set vs (n).toNatClampNeg (.int (x.toInt8.toInt32))) ((n + (1 : Int32))).toNatClampNeg (.int (((x.toUInt32 >>> ((8 : Int32) &&& 31).toUInt32).toInt32).toInt8.toInt32))) (.int (0 : Int32))
theorem ef_pu16 (m : MethodId) (x0 : Addr) (x1 : Int32) : entryFrame m #[(.ref x0), (.int x1)] 2 = mkF m 0 #[.val (.ref x0), .val (.int x1)] [] := by first | (simp [entryFrame, mkF, argsToLocals, Value.category]; done) | rfl
set_option maxRecDepth 65536 in
set_option maxHeartbeats 40000000 in
theorem rm_pu16 (l : Launch) (Z : State) (a0 : Array Value) (hw : ∀ d ∈ tables_1, d.before a0 Z = true) (a : Addr) (b : Addr) (dq : Addr) (ka : ClassId) (n : Int32) (vs : List Value) (x : Int32) (h0 : Heap) (n0 : Nat) (Z0 : n0 ≤ h0.size) (F_length_a : Fld Z h0 a "com/example/glowworm/glowworm/NetlinkWriter" "length" "I" (.int n)) (F_bytes_a : Fld Z h0 a "com/example/glowworm/glowworm/NetlinkWriter" "bytes" "[B" (.ref b)) (F_openNests_a : Fld Z h0 a "com/example/glowworm/glowworm/NetlinkWriter" "openNests" "Ljava/util/Deque;" (.ref dq)) (V_b : Arv Z h0 b ka .byte (64 : Int32) vs (.int (0 : Int32))) (E_a : Exa Z h0 a "com/example/glowworm/glowworm/NetlinkWriter") (g_a : n0 ≤ a) (g_b : n0 ≤ b) (ne_a_b : a ≠ b) (hn0 : ¬ n < (0 : Int32)) (hn1 : n < (60 : Int32)) (hle : vs.length = 64) :
    Ct l Z (⟨"com/example/glowworm/glowworm/NetlinkWriter", "putU16", "(I)V"⟩ : MethodName) prog_15_method_16_code 2 none [] ({ frames := 1, cells := 0, slots := 0, locals := 13 } : Room) #[(.ref a), (.int x)] h0 (Q_pu16 Z a b dq ka n vs x h0 n0) := by
  refine own_body (plainFor_of_name pn_2) (fun m => ef_pu16 m a x) ?_
  intro p e s m below meth c T0 hx hby hml hZ hown hnm hret hlk X0 e0
  have N0 := Fr.nil n0
  refine g_aloadN X0 hx (hb hby d_prog_15_m_16_0) rfl rfl rfl ?_
  refine g_iloadN X0 hx (hb hby d_prog_15_m_16_1) rfl rfl ?_
  refine g_i2b X0 hx (hb hby d_prog_15_m_16_2) rfl rfl ?_
  refine g_private X0 hx hZ hown (hw _ (List.mem_of_getElem? (i := 40) rfl)) (hw _ (List.mem_of_getElem? (i := 41) rfl)) (hw _ (List.mem_of_getElem? (i := 3) rfl)) (hw _ (List.mem_of_getElem? (i := 42) rfl)) (hw _ (List.mem_of_getElem? (i := 4) rfl)) (hw _ (List.mem_of_getElem? (i := 43) rfl)) (by decide) (a := a) E_a (rm_put l Z a0 hw a b dq ka n vs (x.toInt8.toInt32) h0 n0 Z0 F_length_a F_bytes_a F_openNests_a V_b E_a g_a g_b ne_a_b hn0 (own_lt (by decide) hn1) (by simp [hle]) (own_bb _)) (by rw [hml]; rfl) e0 [(.int (x.toInt8.toInt32))] rfl rfl (W := 0) (Nat.le_of_eq rfl) (by decide) (by decide) (by decide) (by decide) (lenOf pd_1 rfl) (hb hby d_prog_15_m_16_3) rfl fun v1 T1 L1 X1 hQ1 => ?_
  obtain ⟨rfl, Nq1, kc1, p1_0, p1_1, p1_2, p1_3, p1_4⟩ := hQ1
  have N1 := Fr.app N0 Nq1
  have kk1 : Keep h0 T1.heap [a, b] := (Keep.refl h0 [a, b]).trans kc1 (allS (Or.inl (by simp)) (allS (Or.inl (by simp)) all0))
  have Z1 : n0 ≤ T1.heap.size := Nat.le_trans Z0 kc1.1
  show Ga _ _ _ _ _ _ _ _ _ _ _ []
  refine g_aloadN X1 hx (hb hby d_prog_15_m_16_6) rfl rfl rfl ?_
  refine g_iloadN X1 hx (hb hby d_prog_15_m_16_7) rfl rfl ?_
  refine g_bipush X1 hx (r := (8 : Int32)) (hb hby d_prog_15_m_16_8) rfl rfl ?_
  refine g_iushr X1 hx (hb hby d_prog_15_m_16_10) rfl rfl ?_
  refine g_i2b X1 hx (hb hby d_prog_15_m_16_11) rfl rfl ?_
  refine g_private X1 hx hZ hown (hw _ (List.mem_of_getElem? (i := 40) rfl)) (hw _ (List.mem_of_getElem? (i := 41) rfl)) (hw _ (List.mem_of_getElem? (i := 3) rfl)) (hw _ (List.mem_of_getElem? (i := 42) rfl)) (hw _ (List.mem_of_getElem? (i := 4) rfl)) (hw _ (List.mem_of_getElem? (i := 43) rfl)) (by decide) (a := a) p1_0 (rm_put l Z a0 hw a b dq ka (n + (1 : Int32)) (List.set vs (n).toNatClampNeg (.int (x.toInt8.toInt32))) (((x.toUInt32 >>> ((8 : Int32) &&& 31).toUInt32).toInt32).toInt8.toInt32) T1.heap n0 Z1 p1_1 p1_2 p1_3 p1_4 p1_0 g_a g_b ne_a_b ((own_up1 (64 : Int32) hn0 hn1).1) ((own_up1 (64 : Int32) hn0 hn1).2) (by simp [hle]) (own_bb _)) (by rw [hml]; rfl) rfl [(.int (((x.toUInt32 >>> ((8 : Int32) &&& 31).toUInt32).toInt32).toInt8.toInt32))] rfl rfl (W := 0) (Nat.le_of_eq rfl) (by decide) (by decide) (by decide) (by decide) (lenOf pd_1 rfl) (hb hby d_prog_15_m_16_12) rfl fun v2 T2 L2 X2 hQ2 => ?_
  obtain ⟨rfl, Nq2, kc2, p2_0, p2_1, p2_2, p2_3, p2_4⟩ := hQ2
  have N2 := Fr.app N1 Nq2
  have kk2 : Keep h0 T2.heap [a, b] := kk1.trans kc2 (allS (Or.inl (by simp)) (allS (Or.inl (by simp)) all0))
  have Z2 : n0 ≤ T2.heap.size := Nat.le_trans Z1 kc2.1
  show Ga _ _ _ _ _ _ _ _ _ _ _ []
  exact g_ret X2 hx hret hlk (hb hby d_prog_15_m_16_15) (by decide) (by decide) ⟨rfl, N2, kk2, p2_0, p2_1, p2_2, p2_3, p2_4⟩
def Q_pu32 (Z : State) (a : Addr) (b : Addr) (dq : Addr) (ka : ClassId) (n : Int32) (vs : List Value) (x : Int32) (h0 : Heap) (n0 : Nat) (v : Option Value) (h : Heap) (L : List Loc) : Prop := v = none ∧ Fr n0 L ∧ Keep h0 h [a, b] ∧ Exa Z h a "com/example/glowworm/glowworm/NetlinkWriter" ∧ Fld Z h a "com/example/glowworm/glowworm/NetlinkWriter" "length" "I" (.int ((((n + (1 : Int32)) + (1 : Int32)) + (1 : Int32)) + (1 : Int32))) ∧ Fld Z h a "com/example/glowworm/glowworm/NetlinkWriter" "bytes" "[B" (.ref b) ∧ Fld Z h a "com/example/glowworm/glowworm/NetlinkWriter" "openNests" "Ljava/util/Deque;" (.ref dq) ∧ Arv Z h b ka .byte (64 : Int32) (List.set (List.set (List.set (List.set vs (n).toNatClampNeg (.int (x.toInt8.toInt32))) ((n + (1 : Int32))).toNatClampNeg (.int (((x.toUInt32 >>> ((8 : Int32) &&& 31).toUInt32).toInt32).toInt8.toInt32))) (((n + (1 : Int32)) + (1 : Int32))).toNatClampNeg (.int (((x.toUInt32 >>> ((16 : Int32) &&& 31).toUInt32).toInt32).toInt8.toInt32))) ((((n + (1 : Int32)) + (1 : Int32)) + (1 : Int32))).toNatClampNeg (.int (((((x.toUInt32 >>> ((16 : Int32) &&& 31).toUInt32).toInt32).toUInt32 >>> ((8 : Int32) &&& 31).toUInt32).toInt32).toInt8.toInt32))) (.int (0 : Int32))
theorem ef_pu32 (m : MethodId) (x0 : Addr) (x1 : Int32) : entryFrame m #[(.ref x0), (.int x1)] 2 = mkF m 0 #[.val (.ref x0), .val (.int x1)] [] := by first | (simp [entryFrame, mkF, argsToLocals, Value.category]; done) | rfl
set_option maxRecDepth 65536 in
set_option maxHeartbeats 40000000 in
theorem rm_pu32 (l : Launch) (Z : State) (a0 : Array Value) (hw : ∀ d ∈ tables_1, d.before a0 Z = true) (a : Addr) (b : Addr) (dq : Addr) (ka : ClassId) (n : Int32) (vs : List Value) (x : Int32) (h0 : Heap) (n0 : Nat) (Z0 : n0 ≤ h0.size) (F_length_a : Fld Z h0 a "com/example/glowworm/glowworm/NetlinkWriter" "length" "I" (.int n)) (F_bytes_a : Fld Z h0 a "com/example/glowworm/glowworm/NetlinkWriter" "bytes" "[B" (.ref b)) (F_openNests_a : Fld Z h0 a "com/example/glowworm/glowworm/NetlinkWriter" "openNests" "Ljava/util/Deque;" (.ref dq)) (V_b : Arv Z h0 b ka .byte (64 : Int32) vs (.int (0 : Int32))) (E_a : Exa Z h0 a "com/example/glowworm/glowworm/NetlinkWriter") (g_a : n0 ≤ a) (g_b : n0 ≤ b) (ne_a_b : a ≠ b) (hn0 : ¬ n < (0 : Int32)) (hn1 : n < (56 : Int32)) (hle : vs.length = 64) :
    Ct l Z (⟨"com/example/glowworm/glowworm/NetlinkWriter", "putU32", "(I)V"⟩ : MethodName) prog_15_method_17_code 2 none [] ({ frames := 2, cells := 0, slots := 0, locals := 26 } : Room) #[(.ref a), (.int x)] h0 (Q_pu32 Z a b dq ka n vs x h0 n0) := by
  refine own_body (plainFor_of_name pn_2) (fun m => ef_pu32 m a x) ?_
  intro p e s m below meth c T0 hx hby hml hZ hown hnm hret hlk X0 e0
  have N0 := Fr.nil n0
  refine g_aloadN X0 hx (hb hby d_prog_15_m_17_0) rfl rfl rfl ?_
  refine g_iloadN X0 hx (hb hby d_prog_15_m_17_1) rfl rfl ?_
  refine g_private X0 hx hZ hown (hw _ (List.mem_of_getElem? (i := 36) rfl)) (hw _ (List.mem_of_getElem? (i := 37) rfl)) (hw _ (List.mem_of_getElem? (i := 3) rfl)) (hw _ (List.mem_of_getElem? (i := 38) rfl)) (hw _ (List.mem_of_getElem? (i := 4) rfl)) (hw _ (List.mem_of_getElem? (i := 39) rfl)) (by decide) (a := a) E_a (rm_pu16 l Z a0 hw a b dq ka n vs x h0 n0 Z0 F_length_a F_bytes_a F_openNests_a V_b E_a g_a g_b ne_a_b hn0 (own_lt (by decide) hn1) (by simp [hle])) (by rw [hml]; rfl) e0 [(.int x)] rfl rfl (W := 0) (Nat.le_of_eq rfl) (by decide) (by decide) (by decide) (by decide) (lenOf pd_2 rfl) (hb hby d_prog_15_m_17_2) rfl fun v1 T1 L1 X1 hQ1 => ?_
  obtain ⟨rfl, Nq1, kc1, p1_0, p1_1, p1_2, p1_3, p1_4⟩ := hQ1
  have N1 := Fr.app N0 Nq1
  have kk1 : Keep h0 T1.heap [a, b] := (Keep.refl h0 [a, b]).trans kc1 (allS (Or.inl (by simp)) (allS (Or.inl (by simp)) all0))
  have Z1 : n0 ≤ T1.heap.size := Nat.le_trans Z0 kc1.1
  show Ga _ _ _ _ _ _ _ _ _ _ _ []
  refine g_aloadN X1 hx (hb hby d_prog_15_m_17_5) rfl rfl rfl ?_
  refine g_iloadN X1 hx (hb hby d_prog_15_m_17_6) rfl rfl ?_
  refine g_bipush X1 hx (r := (16 : Int32)) (hb hby d_prog_15_m_17_7) rfl rfl ?_
  refine g_iushr X1 hx (hb hby d_prog_15_m_17_9) rfl rfl ?_
  refine g_private X1 hx hZ hown (hw _ (List.mem_of_getElem? (i := 36) rfl)) (hw _ (List.mem_of_getElem? (i := 37) rfl)) (hw _ (List.mem_of_getElem? (i := 3) rfl)) (hw _ (List.mem_of_getElem? (i := 38) rfl)) (hw _ (List.mem_of_getElem? (i := 4) rfl)) (hw _ (List.mem_of_getElem? (i := 39) rfl)) (by decide) (a := a) p1_0 (rm_pu16 l Z a0 hw a b dq ka ((n + (1 : Int32)) + (1 : Int32)) (List.set (List.set vs (n).toNatClampNeg (.int (x.toInt8.toInt32))) ((n + (1 : Int32))).toNatClampNeg (.int (((x.toUInt32 >>> ((8 : Int32) &&& 31).toUInt32).toInt32).toInt8.toInt32))) ((x.toUInt32 >>> ((16 : Int32) &&& 31).toUInt32).toInt32) T1.heap n0 Z1 p1_1 p1_2 p1_3 p1_4 p1_0 g_a g_b ne_a_b ((own_up2 (60 : Int32) hn0 hn1).1) ((own_up2 (60 : Int32) hn0 hn1).2) (by simp [hle])) (by rw [hml]; rfl) rfl [(.int ((x.toUInt32 >>> ((16 : Int32) &&& 31).toUInt32).toInt32))] rfl rfl (W := 0) (Nat.le_of_eq rfl) (by decide) (by decide) (by decide) (by decide) (lenOf pd_2 rfl) (hb hby d_prog_15_m_17_10) rfl fun v2 T2 L2 X2 hQ2 => ?_
  obtain ⟨rfl, Nq2, kc2, p2_0, p2_1, p2_2, p2_3, p2_4⟩ := hQ2
  have N2 := Fr.app N1 Nq2
  have kk2 : Keep h0 T2.heap [a, b] := kk1.trans kc2 (allS (Or.inl (by simp)) (allS (Or.inl (by simp)) all0))
  have Z2 : n0 ≤ T2.heap.size := Nat.le_trans Z1 kc2.1
  show Ga _ _ _ _ _ _ _ _ _ _ _ []
  exact g_ret X2 hx hret hlk (hb hby d_prog_15_m_17_13) (by decide) (by decide) ⟨rfl, N2, kk2, p2_0, p2_1, p2_2, p2_3, p2_4⟩
def Q_nini (Z : State) (a : Addr) (y1 : Int32) (y2 : Int32) (y3 : Int32) (y4 : Int32) (h0 : Heap) (n0 : Nat) (v : Option Value) (h : Heap) (L : List Loc) : Prop := ∃ (b : Addr) (ka : ClassId) (dq : Addr), v = none ∧ Fr n0 L ∧ Keep h0 h [a] ∧ h0.size ≤ b ∧ h0.size ≤ dq ∧ b ≠ dq ∧ Exa Z h a "com/example/glowworm/glowworm/NetlinkWriter" ∧ Exa Z h dq "java/util/ArrayDeque" ∧ Fld Z h dq "java/util/ArrayDeque" "head" "I" (.int (0 : Int32)) ∧ Fld Z h dq "java/util/ArrayDeque" "tail" "I" (.int (0 : Int32)) ∧ Fld Z h a "com/example/glowworm/glowworm/NetlinkWriter" "length" "I" (.int (16 : Int32)) ∧ Fld Z h a "com/example/glowworm/glowworm/NetlinkWriter" "bytes" "[B" (.ref b) ∧ Fld Z h a "com/example/glowworm/glowworm/NetlinkWriter" "openNests" "Ljava/util/Deque;" (.ref dq) ∧ Arv Z h b ka .byte (64 : Int32) [(.int (0 : Int32)), (.int (0 : Int32)), (.int (0 : Int32)), (.int (0 : Int32)), (.int (y1.toInt8.toInt32)), (.int (((y1.toUInt32 >>> ((8 : Int32) &&& 31).toUInt32).toInt32).toInt8.toInt32)), (.int (y2.toInt8.toInt32)), (.int (((y2.toUInt32 >>> ((8 : Int32) &&& 31).toUInt32).toInt32).toInt8.toInt32)), (.int (y3.toInt8.toInt32)), (.int (((y3.toUInt32 >>> ((8 : Int32) &&& 31).toUInt32).toInt32).toInt8.toInt32)), (.int (((y3.toUInt32 >>> ((16 : Int32) &&& 31).toUInt32).toInt32).toInt8.toInt32)), (.int (((((y3.toUInt32 >>> ((16 : Int32) &&& 31).toUInt32).toInt32).toUInt32 >>> ((8 : Int32) &&& 31).toUInt32).toInt32).toInt8.toInt32)), (.int (y4.toInt8.toInt32)), (.int (((y4.toUInt32 >>> ((8 : Int32) &&& 31).toUInt32).toInt32).toInt8.toInt32)), (.int (((y4.toUInt32 >>> ((16 : Int32) &&& 31).toUInt32).toInt32).toInt8.toInt32)), (.int (((((y4.toUInt32 >>> ((16 : Int32) &&& 31).toUInt32).toInt32).toUInt32 >>> ((8 : Int32) &&& 31).toUInt32).toInt32).toInt8.toInt32)), (.int (0 : Int32)), (.int (0 : Int32)), (.int (0 : Int32)), (.int (0 : Int32)), (.int (0 : Int32)), (.int (0 : Int32)), (.int (0 : Int32)), (.int (0 : Int32)), (.int (0 : Int32)), (.int (0 : Int32)), (.int (0 : Int32)), (.int (0 : Int32)), (.int (0 : Int32)), (.int (0 : Int32)), (.int (0 : Int32)), (.int (0 : Int32)), (.int (0 : Int32)), (.int (0 : Int32)), (.int (0 : Int32)), (.int (0 : Int32)), (.int (0 : Int32)), (.int (0 : Int32)), (.int (0 : Int32)), (.int (0 : Int32)), (.int (0 : Int32)), (.int (0 : Int32)), (.int (0 : Int32)), (.int (0 : Int32)), (.int (0 : Int32)), (.int (0 : Int32)), (.int (0 : Int32)), (.int (0 : Int32)), (.int (0 : Int32)), (.int (0 : Int32)), (.int (0 : Int32)), (.int (0 : Int32)), (.int (0 : Int32)), (.int (0 : Int32)), (.int (0 : Int32)), (.int (0 : Int32)), (.int (0 : Int32)), (.int (0 : Int32)), (.int (0 : Int32)), (.int (0 : Int32)), (.int (0 : Int32)), (.int (0 : Int32)), (.int (0 : Int32)), (.int (0 : Int32))] (.int (0 : Int32)) ∧ Exa Z h b "[B"
theorem ef_nini (m : MethodId) (x0 : Addr) (x1 : Int32) (x2 : Int32) (x3 : Int32) (x4 : Int32) : entryFrame m #[(.ref x0), (.int x1), (.int x2), (.int x3), (.int x4)] 5 = mkF m 0 #[.val (.ref x0), .val (.int x1), .val (.int x2), .val (.int x3), .val (.int x4)] [] := by first | (simp [entryFrame, mkF, argsToLocals, Value.category]; done) | rfl
set_option maxRecDepth 65536 in
set_option maxHeartbeats 40000000 in
theorem rm_nini (l : Launch) (Z : State) (a0 : Array Value) (hw : ∀ d ∈ tables_1, d.before a0 Z = true) (a : Addr) (y1 : Int32) (y2 : Int32) (y3 : Int32) (y4 : Int32) (h0 : Heap) (n0 : Nat) (Z0 : n0 ≤ h0.size) (F_length_a : Fld Z h0 a "com/example/glowworm/glowworm/NetlinkWriter" "length" "I" (.int (0 : Int32))) (F_bytes_a : Fld Z h0 a "com/example/glowworm/glowworm/NetlinkWriter" "bytes" "[B" .null) (F_openNests_a : Fld Z h0 a "com/example/glowworm/glowworm/NetlinkWriter" "openNests" "Ljava/util/Deque;" .null) (E_a : Exa Z h0 a "com/example/glowworm/glowworm/NetlinkWriter") (g_a : n0 ≤ a) :
    Ct l Z (⟨"com/example/glowworm/glowworm/NetlinkWriter", "<init>", "(IIII)V"⟩ : MethodName) prog_15_method_1_code 5 none [] ({ frames := 3, cells := 3, slots := 84, locals := 39 } : Room) #[(.ref a), (.int y1), (.int y2), (.int y3), (.int y4)] h0 (Q_nini Z a y1 y2 y3 y4 h0 n0) := by
  refine own_body (plainFor_of_name pn_2) (fun m => ef_nini m a y1 y2 y3 y4) ?_
  intro p e s m below meth c T0 hx hby hml hZ hown hnm hret hlk X0 e0
  have N0 := Fr.nil n0
  refine g_aloadN X0 hx (hb hby d_prog_15_m_1_0) rfl rfl rfl ?_
  refine g_initO X0 hx hZ hown (hw _ (List.mem_of_getElem? (i := 8) rfl)) (hw _ (List.mem_of_getElem? (i := 9) rfl)) (hw _ (List.mem_of_getElem? (i := 10) rfl)) e0 (by rw [hml]; rfl) (hb hby d_prog_15_m_1_1) rfl (by decide) (W := 0) (Nat.le_of_eq rfl) (by decide) fun T1 X1 e1 => ?_
  refine g_aloadN X1 hx (hb hby d_prog_15_m_1_4) rfl rfl rfl ?_
  refine g_bipush X1 hx (r := (64 : Int32)) (hb hby d_prog_15_m_1_5) rfl rfl ?_
  refine g_newarray X1 hx hZ (aty := .byte) (hw _ (List.mem_of_getElem? (i := 1) rfl)) e1 (by decide) 64 (by decide) (by decide) (by decide) (by decide) (ad := "[B") (by decide) (hb hby d_prog_15_m_1_7) rfl fun T2 h2 b2 ka2 X2 e2 q2 E2 A2 V2 => ?_
  have ne_a_b2 : a ≠ b2 := own_ne F_length_a.lt q2
  have g_b2 : n0 ≤ b2 := Nat.le_trans Z0 (Nat.le_of_eq q2.symm)
  have sz_b2 : h0.size ≤ b2 := Nat.le_trans (Keep.refl h0 [a]).1 (Nat.le_of_eq q2.symm)
  have Z2 : n0 ≤ h2.size := Nat.le_trans Z0 E2.1
  have kk2 : Keep h0 h2 [a] := (Keep.refl h0 [a]).ext E2
  have Vn2 : Arv Z h2 b2 ka2 .byte (64 : Int32) [(.int (0 : Int32)), (.int (0 : Int32)), (.int (0 : Int32)), (.int (0 : Int32)), (.int (0 : Int32)), (.int (0 : Int32)), (.int (0 : Int32)), (.int (0 : Int32)), (.int (0 : Int32)), (.int (0 : Int32)), (.int (0 : Int32)), (.int (0 : Int32)), (.int (0 : Int32)), (.int (0 : Int32)), (.int (0 : Int32)), (.int (0 : Int32)), (.int (0 : Int32)), (.int (0 : Int32)), (.int (0 : Int32)), (.int (0 : Int32)), (.int (0 : Int32)), (.int (0 : Int32)), (.int (0 : Int32)), (.int (0 : Int32)), (.int (0 : Int32)), (.int (0 : Int32)), (.int (0 : Int32)), (.int (0 : Int32)), (.int (0 : Int32)), (.int (0 : Int32)), (.int (0 : Int32)), (.int (0 : Int32)), (.int (0 : Int32)), (.int (0 : Int32)), (.int (0 : Int32)), (.int (0 : Int32)), (.int (0 : Int32)), (.int (0 : Int32)), (.int (0 : Int32)), (.int (0 : Int32)), (.int (0 : Int32)), (.int (0 : Int32)), (.int (0 : Int32)), (.int (0 : Int32)), (.int (0 : Int32)), (.int (0 : Int32)), (.int (0 : Int32)), (.int (0 : Int32)), (.int (0 : Int32)), (.int (0 : Int32)), (.int (0 : Int32)), (.int (0 : Int32)), (.int (0 : Int32)), (.int (0 : Int32)), (.int (0 : Int32)), (.int (0 : Int32)), (.int (0 : Int32)), (.int (0 : Int32)), (.int (0 : Int32)), (.int (0 : Int32)), (.int (0 : Int32)), (.int (0 : Int32)), (.int (0 : Int32)), (.int (0 : Int32))] (.int (0 : Int32)) := V2
  have f4 : Fld Z h2 a "com/example/glowworm/glowworm/NetlinkWriter" "bytes" "[B" .null := (F_bytes_a.ext E2)
  have f5 : Exa Z h2 a "com/example/glowworm/glowworm/NetlinkWriter" := (E_a.ext E2)
  refine g_putF X2 hx hZ hown (host := "") (Or.inl (hw _ (List.mem_of_getElem? (i := 11) rfl))) Via.refl e2 f4 f5 (Or.inl (hw _ (List.mem_of_getElem? (i := 12) rfl))) (hw _ (List.mem_of_getElem? (i := 3) rfl)) (ty := (.array .byte)) (by decide) rfl rfl (hb hby d_prog_15_m_1_9) rfl fun T3 h3 X3 e3 W3 F3 => ?_
  have kk3 : Keep h0 h3 [a] := kk2.wr W3 (Or.inl (by simp))
  have N3 := Fr.snoc X3 N0 g_a
  have Z3 : n0 ≤ h3.size := by rw [W3.size]; exact Z2
  refine g_aloadN X3 hx (hb hby d_prog_15_m_1_12) rfl rfl rfl ?_
  have f7 : Fld Z h3 a "com/example/glowworm/glowworm/NetlinkWriter" "length" "I" (.int (0 : Int32)) := ((F_length_a.ext E2).other W3 (Or.inr (slot_ne (Or.inl (hw _ (List.mem_of_getElem? (i := 45) rfl))) (Or.inl (hw _ (List.mem_of_getElem? (i := 12) rfl))) (by decide) (t := .int) (t' := (.array .byte)) (by decide) (by decide))))
  have f8 : Arv Z h3 b2 ka2 .byte (64 : Int32) [(.int (0 : Int32)), (.int (0 : Int32)), (.int (0 : Int32)), (.int (0 : Int32)), (.int (0 : Int32)), (.int (0 : Int32)), (.int (0 : Int32)), (.int (0 : Int32)), (.int (0 : Int32)), (.int (0 : Int32)), (.int (0 : Int32)), (.int (0 : Int32)), (.int (0 : Int32)), (.int (0 : Int32)), (.int (0 : Int32)), (.int (0 : Int32)), (.int (0 : Int32)), (.int (0 : Int32)), (.int (0 : Int32)), (.int (0 : Int32)), (.int (0 : Int32)), (.int (0 : Int32)), (.int (0 : Int32)), (.int (0 : Int32)), (.int (0 : Int32)), (.int (0 : Int32)), (.int (0 : Int32)), (.int (0 : Int32)), (.int (0 : Int32)), (.int (0 : Int32)), (.int (0 : Int32)), (.int (0 : Int32)), (.int (0 : Int32)), (.int (0 : Int32)), (.int (0 : Int32)), (.int (0 : Int32)), (.int (0 : Int32)), (.int (0 : Int32)), (.int (0 : Int32)), (.int (0 : Int32)), (.int (0 : Int32)), (.int (0 : Int32)), (.int (0 : Int32)), (.int (0 : Int32)), (.int (0 : Int32)), (.int (0 : Int32)), (.int (0 : Int32)), (.int (0 : Int32)), (.int (0 : Int32)), (.int (0 : Int32)), (.int (0 : Int32)), (.int (0 : Int32)), (.int (0 : Int32)), (.int (0 : Int32)), (.int (0 : Int32)), (.int (0 : Int32)), (.int (0 : Int32)), (.int (0 : Int32)), (.int (0 : Int32)), (.int (0 : Int32)), (.int (0 : Int32)), (.int (0 : Int32)), (.int (0 : Int32)), (.int (0 : Int32))] (.int (0 : Int32)) := (Vn2.other W3 (Ne.symm ne_a_b2))
  refine g_new X3 hx hZ hown (hw _ (List.mem_of_getElem? (i := 13) rfl)) (hw _ (List.mem_of_getElem? (i := 14) rfl)) (hw _ (List.mem_of_getElem? (i := 15) rfl)) e3 (hb hby d_prog_15_m_1_13) rfl (by decide) (by decide) fun T6 h6 b6 X6 e6 q6 E6 A6 D6 => ?_
  have ne_a_b6 : a ≠ b6 := own_ne f7.lt q6
  have ne_b2_b6 : b2 ≠ b6 := own_ne f8.lt q6
  have g_b6 : n0 ≤ b6 := Nat.le_trans Z3 (Nat.le_of_eq q6.symm)
  have sz_b6 : h0.size ≤ b6 := Nat.le_trans kk3.1 (Nat.le_of_eq q6.symm)
  have Z6 : n0 ≤ h6.size := Nat.le_trans Z3 E6.1
  have kk6 : Keep h0 h6 [a] := kk3.ext E6
  have F6_elements : Fld Z h6 b6 "java/util/ArrayDeque" "elements" "[Ljava/lang/Object;" .null := D6 (Or.inl (hw _ (List.mem_of_getElem? (i := 29) rfl))) (ty := (.array (.object "java/lang/Object"))) (by decide)
  have F6_head : Fld Z h6 b6 "java/util/ArrayDeque" "head" "I" (.int (0 : Int32)) := D6 (Or.inl (hw _ (List.mem_of_getElem? (i := 66) rfl))) (ty := .int) (by decide)
  have F6_tail : Fld Z h6 b6 "java/util/ArrayDeque" "tail" "I" (.int (0 : Int32)) := D6 (Or.inl (hw _ (List.mem_of_getElem? (i := 68) rfl))) (ty := .int) (by decide)
  refine g_dup X6 hx (hb hby d_prog_15_m_1_16) rfl rfl ?_
  refine g_special X6 hx hZ hown rfl (hw _ (List.mem_of_getElem? (i := 16) rfl)) (hw _ (List.mem_of_getElem? (i := 17) rfl)) (hw _ (List.mem_of_getElem? (i := 15) rfl)) (hw _ (List.mem_of_getElem? (i := 18) rfl)) (by decide) (a := b6) (rm_dqini l Z a0 hw b6 h6 n0 Z6 F6_head F6_tail F6_elements A6 g_b6) (by rw [hml]; rfl) e6 [] rfl rfl (W := 2) (Nat.le_of_eq rfl) (by decide) (by decide) (by decide) (by decide) (lenOf pd_0 rfl) (hb hby d_prog_15_m_1_17) rfl fun v9 T9 L9 X9 hQ9 => ?_
  obtain ⟨rfl, Nq9, kc9, p9_0, p9_1, p9_2⟩ := hQ9
  have N9 := Fr.app N3 Nq9
  have kk9 : Keep h0 T9.heap [a] := kk6.trans kc9 (allS (Or.inr sz_b6) all0)
  have Z9 : n0 ≤ T9.heap.size := Nat.le_trans Z6 kc9.1
  show Ga _ _ _ _ _ _ _ _ _ _ _ [(.ref b6), (.ref a)]
  have f11 : Fld Z T9.heap a "com/example/glowworm/glowworm/NetlinkWriter" "openNests" "Ljava/util/Deque;" .null := ((((F_openNests_a.ext E2).other W3 (Or.inr (slot_ne (Or.inr (hw _ (List.mem_of_getElem? (i := 31) rfl))) (Or.inl (hw _ (List.mem_of_getElem? (i := 12) rfl))) (by decide) (t := (.object "java/util/Deque")) (t' := (.array .byte)) (by decide) (by decide)))).ext E6).keep kc9 (ninS ne_a_b6 nin0))
  have f12 : Exa Z T9.heap a "com/example/glowworm/glowworm/NetlinkWriter" := (((f5.wr W3).ext E6).keep kc9)
  refine g_putF X9 hx hZ hown (host := "") (Or.inl (hw _ (List.mem_of_getElem? (i := 30) rfl))) Via.refl rfl f11 f12 (Or.inr ⟨(hw _ (List.mem_of_getElem? (i := 31) rfl)), rfl, hnm⟩) (hw _ (List.mem_of_getElem? (i := 3) rfl)) (ty := (.object "java/util/Deque")) (by decide) rfl rfl (hb hby d_prog_15_m_1_20) rfl fun T10 h10 X10 e10 W10 F10 => ?_
  have kk10 : Keep h0 h10 [a] := kk9.wr W10 (Or.inl (by simp))
  have N10 := Fr.snoc X10 N9 g_a
  have Z10 : n0 ≤ h10.size := by rw [W10.size]; exact Z9
  refine g_aloadN X10 hx (hb hby d_prog_15_m_1_23) rfl rfl rfl ?_
  refine g_iconst X10 hx (r := (0 : Int32)) (hb hby d_prog_15_m_1_24) rfl rfl ?_
  have f14 : Fld Z h10 a "com/example/glowworm/glowworm/NetlinkWriter" "length" "I" (.int (0 : Int32)) := (((f7.ext E6).keep kc9 (ninS ne_a_b6 nin0)).other W10 (Or.inr (slot_ne (Or.inl (hw _ (List.mem_of_getElem? (i := 45) rfl))) (Or.inr (hw _ (List.mem_of_getElem? (i := 31) rfl))) (by decide) (t := .int) (t' := (.object "java/util/Deque")) (by decide) (by decide))))
  have f15 : Fld Z h10 a "com/example/glowworm/glowworm/NetlinkWriter" "bytes" "[B" (.ref b2) := (((F3.ext E6).keep kc9 (ninS ne_a_b6 nin0)).other W10 (Or.inr (slot_ne (Or.inl (hw _ (List.mem_of_getElem? (i := 12) rfl))) (Or.inr (hw _ (List.mem_of_getElem? (i := 31) rfl))) (by decide) (t := (.array .byte)) (t' := (.object "java/util/Deque")) (by decide) (by decide))))
  have f16 : Arv Z h10 b2 ka2 .byte (64 : Int32) [(.int (0 : Int32)), (.int (0 : Int32)), (.int (0 : Int32)), (.int (0 : Int32)), (.int (0 : Int32)), (.int (0 : Int32)), (.int (0 : Int32)), (.int (0 : Int32)), (.int (0 : Int32)), (.int (0 : Int32)), (.int (0 : Int32)), (.int (0 : Int32)), (.int (0 : Int32)), (.int (0 : Int32)), (.int (0 : Int32)), (.int (0 : Int32)), (.int (0 : Int32)), (.int (0 : Int32)), (.int (0 : Int32)), (.int (0 : Int32)), (.int (0 : Int32)), (.int (0 : Int32)), (.int (0 : Int32)), (.int (0 : Int32)), (.int (0 : Int32)), (.int (0 : Int32)), (.int (0 : Int32)), (.int (0 : Int32)), (.int (0 : Int32)), (.int (0 : Int32)), (.int (0 : Int32)), (.int (0 : Int32)), (.int (0 : Int32)), (.int (0 : Int32)), (.int (0 : Int32)), (.int (0 : Int32)), (.int (0 : Int32)), (.int (0 : Int32)), (.int (0 : Int32)), (.int (0 : Int32)), (.int (0 : Int32)), (.int (0 : Int32)), (.int (0 : Int32)), (.int (0 : Int32)), (.int (0 : Int32)), (.int (0 : Int32)), (.int (0 : Int32)), (.int (0 : Int32)), (.int (0 : Int32)), (.int (0 : Int32)), (.int (0 : Int32)), (.int (0 : Int32)), (.int (0 : Int32)), (.int (0 : Int32)), (.int (0 : Int32)), (.int (0 : Int32)), (.int (0 : Int32)), (.int (0 : Int32)), (.int (0 : Int32)), (.int (0 : Int32)), (.int (0 : Int32)), (.int (0 : Int32)), (.int (0 : Int32)), (.int (0 : Int32))] (.int (0 : Int32)) := (((f8.ext E6).keep kc9 (ninS ne_b2_b6 nin0)).other W10 (Ne.symm ne_a_b2))
  have f17 : Exa Z h10 a "com/example/glowworm/glowworm/NetlinkWriter" := (f12.wr W10)
  refine g_private X10 hx hZ hown (hw _ (List.mem_of_getElem? (i := 32) rfl)) (hw _ (List.mem_of_getElem? (i := 33) rfl)) (hw _ (List.mem_of_getElem? (i := 3) rfl)) (hw _ (List.mem_of_getElem? (i := 34) rfl)) (hw _ (List.mem_of_getElem? (i := 4) rfl)) (hw _ (List.mem_of_getElem? (i := 35) rfl)) (by decide) (a := a) f17 (rm_pu32 l Z a0 hw a b2 b6 ka2 (0 : Int32) [(.int (0 : Int32)), (.int (0 : Int32)), (.int (0 : Int32)), (.int (0 : Int32)), (.int (0 : Int32)), (.int (0 : Int32)), (.int (0 : Int32)), (.int (0 : Int32)), (.int (0 : Int32)), (.int (0 : Int32)), (.int (0 : Int32)), (.int (0 : Int32)), (.int (0 : Int32)), (.int (0 : Int32)), (.int (0 : Int32)), (.int (0 : Int32)), (.int (0 : Int32)), (.int (0 : Int32)), (.int (0 : Int32)), (.int (0 : Int32)), (.int (0 : Int32)), (.int (0 : Int32)), (.int (0 : Int32)), (.int (0 : Int32)), (.int (0 : Int32)), (.int (0 : Int32)), (.int (0 : Int32)), (.int (0 : Int32)), (.int (0 : Int32)), (.int (0 : Int32)), (.int (0 : Int32)), (.int (0 : Int32)), (.int (0 : Int32)), (.int (0 : Int32)), (.int (0 : Int32)), (.int (0 : Int32)), (.int (0 : Int32)), (.int (0 : Int32)), (.int (0 : Int32)), (.int (0 : Int32)), (.int (0 : Int32)), (.int (0 : Int32)), (.int (0 : Int32)), (.int (0 : Int32)), (.int (0 : Int32)), (.int (0 : Int32)), (.int (0 : Int32)), (.int (0 : Int32)), (.int (0 : Int32)), (.int (0 : Int32)), (.int (0 : Int32)), (.int (0 : Int32)), (.int (0 : Int32)), (.int (0 : Int32)), (.int (0 : Int32)), (.int (0 : Int32)), (.int (0 : Int32)), (.int (0 : Int32)), (.int (0 : Int32)), (.int (0 : Int32)), (.int (0 : Int32)), (.int (0 : Int32)), (.int (0 : Int32)), (.int (0 : Int32))] (0 : Int32) h10 n0 Z10 f14 f15 F10 f16 f17 g_a g_b2 ne_a_b2 (by decide) (by decide) rfl) (by rw [hml]; rfl) e10 [(.int (0 : Int32))] rfl rfl (W := 0) (Nat.le_of_eq rfl) (by decide) (by decide) (by decide) (by decide) (lenOf pd_2 rfl) (hb hby d_prog_15_m_1_25) rfl fun v13 T13 L13 X13 hQ13 => ?_
  obtain ⟨rfl, Nq13, kc13, p13_0, p13_1, p13_2, p13_3, p13_4⟩ := hQ13
  have N13 := Fr.app N10 Nq13
  have kk13 : Keep h0 T13.heap [a] := kk10.trans kc13 (allS (Or.inl (by simp)) (allS (Or.inr sz_b2) all0))
  have Z13 : n0 ≤ T13.heap.size := Nat.le_trans Z10 kc13.1
  have pv13_1 : Fld Z T13.heap a "com/example/glowworm/glowworm/NetlinkWriter" "length" "I" (.int (4 : Int32)) := p13_1
  have pv13_4 : Arv Z T13.heap b2 ka2 .byte (64 : Int32) [(.int (0 : Int32)), (.int (0 : Int32)), (.int (0 : Int32)), (.int (0 : Int32)), (.int (0 : Int32)), (.int (0 : Int32)), (.int (0 : Int32)), (.int (0 : Int32)), (.int (0 : Int32)), (.int (0 : Int32)), (.int (0 : Int32)), (.int (0 : Int32)), (.int (0 : Int32)), (.int (0 : Int32)), (.int (0 : Int32)), (.int (0 : Int32)), (.int (0 : Int32)), (.int (0 : Int32)), (.int (0 : Int32)), (.int (0 : Int32)), (.int (0 : Int32)), (.int (0 : Int32)), (.int (0 : Int32)), (.int (0 : Int32)), (.int (0 : Int32)), (.int (0 : Int32)), (.int (0 : Int32)), (.int (0 : Int32)), (.int (0 : Int32)), (.int (0 : Int32)), (.int (0 : Int32)), (.int (0 : Int32)), (.int (0 : Int32)), (.int (0 : Int32)), (.int (0 : Int32)), (.int (0 : Int32)), (.int (0 : Int32)), (.int (0 : Int32)), (.int (0 : Int32)), (.int (0 : Int32)), (.int (0 : Int32)), (.int (0 : Int32)), (.int (0 : Int32)), (.int (0 : Int32)), (.int (0 : Int32)), (.int (0 : Int32)), (.int (0 : Int32)), (.int (0 : Int32)), (.int (0 : Int32)), (.int (0 : Int32)), (.int (0 : Int32)), (.int (0 : Int32)), (.int (0 : Int32)), (.int (0 : Int32)), (.int (0 : Int32)), (.int (0 : Int32)), (.int (0 : Int32)), (.int (0 : Int32)), (.int (0 : Int32)), (.int (0 : Int32)), (.int (0 : Int32)), (.int (0 : Int32)), (.int (0 : Int32)), (.int (0 : Int32))] (.int (0 : Int32)) := p13_4
  show Ga _ _ _ _ _ _ _ _ _ _ _ []
  refine g_aloadN X13 hx (hb hby d_prog_15_m_1_28) rfl rfl rfl ?_
  refine g_iloadN X13 hx (hb hby d_prog_15_m_1_29) rfl rfl ?_
  refine g_private X13 hx hZ hown (hw _ (List.mem_of_getElem? (i := 36) rfl)) (hw _ (List.mem_of_getElem? (i := 37) rfl)) (hw _ (List.mem_of_getElem? (i := 3) rfl)) (hw _ (List.mem_of_getElem? (i := 38) rfl)) (hw _ (List.mem_of_getElem? (i := 4) rfl)) (hw _ (List.mem_of_getElem? (i := 39) rfl)) (by decide) (a := a) p13_0 (rm_pu16 l Z a0 hw a b2 b6 ka2 (4 : Int32) [(.int (0 : Int32)), (.int (0 : Int32)), (.int (0 : Int32)), (.int (0 : Int32)), (.int (0 : Int32)), (.int (0 : Int32)), (.int (0 : Int32)), (.int (0 : Int32)), (.int (0 : Int32)), (.int (0 : Int32)), (.int (0 : Int32)), (.int (0 : Int32)), (.int (0 : Int32)), (.int (0 : Int32)), (.int (0 : Int32)), (.int (0 : Int32)), (.int (0 : Int32)), (.int (0 : Int32)), (.int (0 : Int32)), (.int (0 : Int32)), (.int (0 : Int32)), (.int (0 : Int32)), (.int (0 : Int32)), (.int (0 : Int32)), (.int (0 : Int32)), (.int (0 : Int32)), (.int (0 : Int32)), (.int (0 : Int32)), (.int (0 : Int32)), (.int (0 : Int32)), (.int (0 : Int32)), (.int (0 : Int32)), (.int (0 : Int32)), (.int (0 : Int32)), (.int (0 : Int32)), (.int (0 : Int32)), (.int (0 : Int32)), (.int (0 : Int32)), (.int (0 : Int32)), (.int (0 : Int32)), (.int (0 : Int32)), (.int (0 : Int32)), (.int (0 : Int32)), (.int (0 : Int32)), (.int (0 : Int32)), (.int (0 : Int32)), (.int (0 : Int32)), (.int (0 : Int32)), (.int (0 : Int32)), (.int (0 : Int32)), (.int (0 : Int32)), (.int (0 : Int32)), (.int (0 : Int32)), (.int (0 : Int32)), (.int (0 : Int32)), (.int (0 : Int32)), (.int (0 : Int32)), (.int (0 : Int32)), (.int (0 : Int32)), (.int (0 : Int32)), (.int (0 : Int32)), (.int (0 : Int32)), (.int (0 : Int32)), (.int (0 : Int32))] y1 T13.heap n0 Z13 pv13_1 p13_2 p13_3 pv13_4 p13_0 g_a g_b2 ne_a_b2 (by decide) (by decide) rfl) (by rw [hml]; rfl) rfl [(.int y1)] rfl rfl (W := 0) (Nat.le_of_eq rfl) (by decide) (by decide) (by decide) (by decide) (lenOf pd_2 rfl) (hb hby d_prog_15_m_1_30) rfl fun v18 T18 L18 X18 hQ18 => ?_
  obtain ⟨rfl, Nq18, kc18, p18_0, p18_1, p18_2, p18_3, p18_4⟩ := hQ18
  have N18 := Fr.app N13 Nq18
  have kk18 : Keep h0 T18.heap [a] := kk13.trans kc18 (allS (Or.inl (by simp)) (allS (Or.inr sz_b2) all0))
  have Z18 : n0 ≤ T18.heap.size := Nat.le_trans Z13 kc18.1
  have pv18_1 : Fld Z T18.heap a "com/example/glowworm/glowworm/NetlinkWriter" "length" "I" (.int (6 : Int32)) := p18_1
  have pv18_4 : Arv Z T18.heap b2 ka2 .byte (64 : Int32) [(.int (0 : Int32)), (.int (0 : Int32)), (.int (0 : Int32)), (.int (0 : Int32)), (.int (y1.toInt8.toInt32)), (.int (((y1.toUInt32 >>> ((8 : Int32) &&& 31).toUInt32).toInt32).toInt8.toInt32)), (.int (0 : Int32)), (.int (0 : Int32)), (.int (0 : Int32)), (.int (0 : Int32)), (.int (0 : Int32)), (.int (0 : Int32)), (.int (0 : Int32)), (.int (0 : Int32)), (.int (0 : Int32)), (.int (0 : Int32)), (.int (0 : Int32)), (.int (0 : Int32)), (.int (0 : Int32)), (.int (0 : Int32)), (.int (0 : Int32)), (.int (0 : Int32)), (.int (0 : Int32)), (.int (0 : Int32)), (.int (0 : Int32)), (.int (0 : Int32)), (.int (0 : Int32)), (.int (0 : Int32)), (.int (0 : Int32)), (.int (0 : Int32)), (.int (0 : Int32)), (.int (0 : Int32)), (.int (0 : Int32)), (.int (0 : Int32)), (.int (0 : Int32)), (.int (0 : Int32)), (.int (0 : Int32)), (.int (0 : Int32)), (.int (0 : Int32)), (.int (0 : Int32)), (.int (0 : Int32)), (.int (0 : Int32)), (.int (0 : Int32)), (.int (0 : Int32)), (.int (0 : Int32)), (.int (0 : Int32)), (.int (0 : Int32)), (.int (0 : Int32)), (.int (0 : Int32)), (.int (0 : Int32)), (.int (0 : Int32)), (.int (0 : Int32)), (.int (0 : Int32)), (.int (0 : Int32)), (.int (0 : Int32)), (.int (0 : Int32)), (.int (0 : Int32)), (.int (0 : Int32)), (.int (0 : Int32)), (.int (0 : Int32)), (.int (0 : Int32)), (.int (0 : Int32)), (.int (0 : Int32)), (.int (0 : Int32))] (.int (0 : Int32)) := p18_4
  show Ga _ _ _ _ _ _ _ _ _ _ _ []
  refine g_aloadN X18 hx (hb hby d_prog_15_m_1_33) rfl rfl rfl ?_
  refine g_iloadN X18 hx (hb hby d_prog_15_m_1_34) rfl rfl ?_
  refine g_private X18 hx hZ hown (hw _ (List.mem_of_getElem? (i := 36) rfl)) (hw _ (List.mem_of_getElem? (i := 37) rfl)) (hw _ (List.mem_of_getElem? (i := 3) rfl)) (hw _ (List.mem_of_getElem? (i := 38) rfl)) (hw _ (List.mem_of_getElem? (i := 4) rfl)) (hw _ (List.mem_of_getElem? (i := 39) rfl)) (by decide) (a := a) p18_0 (rm_pu16 l Z a0 hw a b2 b6 ka2 (6 : Int32) [(.int (0 : Int32)), (.int (0 : Int32)), (.int (0 : Int32)), (.int (0 : Int32)), (.int (y1.toInt8.toInt32)), (.int (((y1.toUInt32 >>> ((8 : Int32) &&& 31).toUInt32).toInt32).toInt8.toInt32)), (.int (0 : Int32)), (.int (0 : Int32)), (.int (0 : Int32)), (.int (0 : Int32)), (.int (0 : Int32)), (.int (0 : Int32)), (.int (0 : Int32)), (.int (0 : Int32)), (.int (0 : Int32)), (.int (0 : Int32)), (.int (0 : Int32)), (.int (0 : Int32)), (.int (0 : Int32)), (.int (0 : Int32)), (.int (0 : Int32)), (.int (0 : Int32)), (.int (0 : Int32)), (.int (0 : Int32)), (.int (0 : Int32)), (.int (0 : Int32)), (.int (0 : Int32)), (.int (0 : Int32)), (.int (0 : Int32)), (.int (0 : Int32)), (.int (0 : Int32)), (.int (0 : Int32)), (.int (0 : Int32)), (.int (0 : Int32)), (.int (0 : Int32)), (.int (0 : Int32)), (.int (0 : Int32)), (.int (0 : Int32)), (.int (0 : Int32)), (.int (0 : Int32)), (.int (0 : Int32)), (.int (0 : Int32)), (.int (0 : Int32)), (.int (0 : Int32)), (.int (0 : Int32)), (.int (0 : Int32)), (.int (0 : Int32)), (.int (0 : Int32)), (.int (0 : Int32)), (.int (0 : Int32)), (.int (0 : Int32)), (.int (0 : Int32)), (.int (0 : Int32)), (.int (0 : Int32)), (.int (0 : Int32)), (.int (0 : Int32)), (.int (0 : Int32)), (.int (0 : Int32)), (.int (0 : Int32)), (.int (0 : Int32)), (.int (0 : Int32)), (.int (0 : Int32)), (.int (0 : Int32)), (.int (0 : Int32))] y2 T18.heap n0 Z18 pv18_1 p18_2 p18_3 pv18_4 p18_0 g_a g_b2 ne_a_b2 (by decide) (by decide) rfl) (by rw [hml]; rfl) rfl [(.int y2)] rfl rfl (W := 0) (Nat.le_of_eq rfl) (by decide) (by decide) (by decide) (by decide) (lenOf pd_2 rfl) (hb hby d_prog_15_m_1_35) rfl fun v19 T19 L19 X19 hQ19 => ?_
  obtain ⟨rfl, Nq19, kc19, p19_0, p19_1, p19_2, p19_3, p19_4⟩ := hQ19
  have N19 := Fr.app N18 Nq19
  have kk19 : Keep h0 T19.heap [a] := kk18.trans kc19 (allS (Or.inl (by simp)) (allS (Or.inr sz_b2) all0))
  have Z19 : n0 ≤ T19.heap.size := Nat.le_trans Z18 kc19.1
  have pv19_1 : Fld Z T19.heap a "com/example/glowworm/glowworm/NetlinkWriter" "length" "I" (.int (8 : Int32)) := p19_1
  have pv19_4 : Arv Z T19.heap b2 ka2 .byte (64 : Int32) [(.int (0 : Int32)), (.int (0 : Int32)), (.int (0 : Int32)), (.int (0 : Int32)), (.int (y1.toInt8.toInt32)), (.int (((y1.toUInt32 >>> ((8 : Int32) &&& 31).toUInt32).toInt32).toInt8.toInt32)), (.int (y2.toInt8.toInt32)), (.int (((y2.toUInt32 >>> ((8 : Int32) &&& 31).toUInt32).toInt32).toInt8.toInt32)), (.int (0 : Int32)), (.int (0 : Int32)), (.int (0 : Int32)), (.int (0 : Int32)), (.int (0 : Int32)), (.int (0 : Int32)), (.int (0 : Int32)), (.int (0 : Int32)), (.int (0 : Int32)), (.int (0 : Int32)), (.int (0 : Int32)), (.int (0 : Int32)), (.int (0 : Int32)), (.int (0 : Int32)), (.int (0 : Int32)), (.int (0 : Int32)), (.int (0 : Int32)), (.int (0 : Int32)), (.int (0 : Int32)), (.int (0 : Int32)), (.int (0 : Int32)), (.int (0 : Int32)), (.int (0 : Int32)), (.int (0 : Int32)), (.int (0 : Int32)), (.int (0 : Int32)), (.int (0 : Int32)), (.int (0 : Int32)), (.int (0 : Int32)), (.int (0 : Int32)), (.int (0 : Int32)), (.int (0 : Int32)), (.int (0 : Int32)), (.int (0 : Int32)), (.int (0 : Int32)), (.int (0 : Int32)), (.int (0 : Int32)), (.int (0 : Int32)), (.int (0 : Int32)), (.int (0 : Int32)), (.int (0 : Int32)), (.int (0 : Int32)), (.int (0 : Int32)), (.int (0 : Int32)), (.int (0 : Int32)), (.int (0 : Int32)), (.int (0 : Int32)), (.int (0 : Int32)), (.int (0 : Int32)), (.int (0 : Int32)), (.int (0 : Int32)), (.int (0 : Int32)), (.int (0 : Int32)), (.int (0 : Int32)), (.int (0 : Int32)), (.int (0 : Int32))] (.int (0 : Int32)) := p19_4
  show Ga _ _ _ _ _ _ _ _ _ _ _ []
  refine g_aloadN X19 hx (hb hby d_prog_15_m_1_38) rfl rfl rfl ?_
  refine g_iloadN X19 hx (hb hby d_prog_15_m_1_39) rfl rfl ?_
  refine g_private X19 hx hZ hown (hw _ (List.mem_of_getElem? (i := 32) rfl)) (hw _ (List.mem_of_getElem? (i := 33) rfl)) (hw _ (List.mem_of_getElem? (i := 3) rfl)) (hw _ (List.mem_of_getElem? (i := 34) rfl)) (hw _ (List.mem_of_getElem? (i := 4) rfl)) (hw _ (List.mem_of_getElem? (i := 35) rfl)) (by decide) (a := a) p19_0 (rm_pu32 l Z a0 hw a b2 b6 ka2 (8 : Int32) [(.int (0 : Int32)), (.int (0 : Int32)), (.int (0 : Int32)), (.int (0 : Int32)), (.int (y1.toInt8.toInt32)), (.int (((y1.toUInt32 >>> ((8 : Int32) &&& 31).toUInt32).toInt32).toInt8.toInt32)), (.int (y2.toInt8.toInt32)), (.int (((y2.toUInt32 >>> ((8 : Int32) &&& 31).toUInt32).toInt32).toInt8.toInt32)), (.int (0 : Int32)), (.int (0 : Int32)), (.int (0 : Int32)), (.int (0 : Int32)), (.int (0 : Int32)), (.int (0 : Int32)), (.int (0 : Int32)), (.int (0 : Int32)), (.int (0 : Int32)), (.int (0 : Int32)), (.int (0 : Int32)), (.int (0 : Int32)), (.int (0 : Int32)), (.int (0 : Int32)), (.int (0 : Int32)), (.int (0 : Int32)), (.int (0 : Int32)), (.int (0 : Int32)), (.int (0 : Int32)), (.int (0 : Int32)), (.int (0 : Int32)), (.int (0 : Int32)), (.int (0 : Int32)), (.int (0 : Int32)), (.int (0 : Int32)), (.int (0 : Int32)), (.int (0 : Int32)), (.int (0 : Int32)), (.int (0 : Int32)), (.int (0 : Int32)), (.int (0 : Int32)), (.int (0 : Int32)), (.int (0 : Int32)), (.int (0 : Int32)), (.int (0 : Int32)), (.int (0 : Int32)), (.int (0 : Int32)), (.int (0 : Int32)), (.int (0 : Int32)), (.int (0 : Int32)), (.int (0 : Int32)), (.int (0 : Int32)), (.int (0 : Int32)), (.int (0 : Int32)), (.int (0 : Int32)), (.int (0 : Int32)), (.int (0 : Int32)), (.int (0 : Int32)), (.int (0 : Int32)), (.int (0 : Int32)), (.int (0 : Int32)), (.int (0 : Int32)), (.int (0 : Int32)), (.int (0 : Int32)), (.int (0 : Int32)), (.int (0 : Int32))] y3 T19.heap n0 Z19 pv19_1 p19_2 p19_3 pv19_4 p19_0 g_a g_b2 ne_a_b2 (by decide) (by decide) rfl) (by rw [hml]; rfl) rfl [(.int y3)] rfl rfl (W := 0) (Nat.le_of_eq rfl) (by decide) (by decide) (by decide) (by decide) (lenOf pd_2 rfl) (hb hby d_prog_15_m_1_40) rfl fun v20 T20 L20 X20 hQ20 => ?_
  obtain ⟨rfl, Nq20, kc20, p20_0, p20_1, p20_2, p20_3, p20_4⟩ := hQ20
  have N20 := Fr.app N19 Nq20
  have kk20 : Keep h0 T20.heap [a] := kk19.trans kc20 (allS (Or.inl (by simp)) (allS (Or.inr sz_b2) all0))
  have Z20 : n0 ≤ T20.heap.size := Nat.le_trans Z19 kc20.1
  have pv20_1 : Fld Z T20.heap a "com/example/glowworm/glowworm/NetlinkWriter" "length" "I" (.int (12 : Int32)) := p20_1
  have pv20_4 : Arv Z T20.heap b2 ka2 .byte (64 : Int32) [(.int (0 : Int32)), (.int (0 : Int32)), (.int (0 : Int32)), (.int (0 : Int32)), (.int (y1.toInt8.toInt32)), (.int (((y1.toUInt32 >>> ((8 : Int32) &&& 31).toUInt32).toInt32).toInt8.toInt32)), (.int (y2.toInt8.toInt32)), (.int (((y2.toUInt32 >>> ((8 : Int32) &&& 31).toUInt32).toInt32).toInt8.toInt32)), (.int (y3.toInt8.toInt32)), (.int (((y3.toUInt32 >>> ((8 : Int32) &&& 31).toUInt32).toInt32).toInt8.toInt32)), (.int (((y3.toUInt32 >>> ((16 : Int32) &&& 31).toUInt32).toInt32).toInt8.toInt32)), (.int (((((y3.toUInt32 >>> ((16 : Int32) &&& 31).toUInt32).toInt32).toUInt32 >>> ((8 : Int32) &&& 31).toUInt32).toInt32).toInt8.toInt32)), (.int (0 : Int32)), (.int (0 : Int32)), (.int (0 : Int32)), (.int (0 : Int32)), (.int (0 : Int32)), (.int (0 : Int32)), (.int (0 : Int32)), (.int (0 : Int32)), (.int (0 : Int32)), (.int (0 : Int32)), (.int (0 : Int32)), (.int (0 : Int32)), (.int (0 : Int32)), (.int (0 : Int32)), (.int (0 : Int32)), (.int (0 : Int32)), (.int (0 : Int32)), (.int (0 : Int32)), (.int (0 : Int32)), (.int (0 : Int32)), (.int (0 : Int32)), (.int (0 : Int32)), (.int (0 : Int32)), (.int (0 : Int32)), (.int (0 : Int32)), (.int (0 : Int32)), (.int (0 : Int32)), (.int (0 : Int32)), (.int (0 : Int32)), (.int (0 : Int32)), (.int (0 : Int32)), (.int (0 : Int32)), (.int (0 : Int32)), (.int (0 : Int32)), (.int (0 : Int32)), (.int (0 : Int32)), (.int (0 : Int32)), (.int (0 : Int32)), (.int (0 : Int32)), (.int (0 : Int32)), (.int (0 : Int32)), (.int (0 : Int32)), (.int (0 : Int32)), (.int (0 : Int32)), (.int (0 : Int32)), (.int (0 : Int32)), (.int (0 : Int32)), (.int (0 : Int32)), (.int (0 : Int32)), (.int (0 : Int32)), (.int (0 : Int32)), (.int (0 : Int32))] (.int (0 : Int32)) := p20_4
  show Ga _ _ _ _ _ _ _ _ _ _ _ []
  refine g_aloadN X20 hx (hb hby d_prog_15_m_1_43) rfl rfl rfl ?_
  refine g_iload X20 hx (hb hby d_prog_15_m_1_44) rfl rfl ?_
  refine g_private X20 hx hZ hown (hw _ (List.mem_of_getElem? (i := 32) rfl)) (hw _ (List.mem_of_getElem? (i := 33) rfl)) (hw _ (List.mem_of_getElem? (i := 3) rfl)) (hw _ (List.mem_of_getElem? (i := 34) rfl)) (hw _ (List.mem_of_getElem? (i := 4) rfl)) (hw _ (List.mem_of_getElem? (i := 35) rfl)) (by decide) (a := a) p20_0 (rm_pu32 l Z a0 hw a b2 b6 ka2 (12 : Int32) [(.int (0 : Int32)), (.int (0 : Int32)), (.int (0 : Int32)), (.int (0 : Int32)), (.int (y1.toInt8.toInt32)), (.int (((y1.toUInt32 >>> ((8 : Int32) &&& 31).toUInt32).toInt32).toInt8.toInt32)), (.int (y2.toInt8.toInt32)), (.int (((y2.toUInt32 >>> ((8 : Int32) &&& 31).toUInt32).toInt32).toInt8.toInt32)), (.int (y3.toInt8.toInt32)), (.int (((y3.toUInt32 >>> ((8 : Int32) &&& 31).toUInt32).toInt32).toInt8.toInt32)), (.int (((y3.toUInt32 >>> ((16 : Int32) &&& 31).toUInt32).toInt32).toInt8.toInt32)), (.int (((((y3.toUInt32 >>> ((16 : Int32) &&& 31).toUInt32).toInt32).toUInt32 >>> ((8 : Int32) &&& 31).toUInt32).toInt32).toInt8.toInt32)), (.int (0 : Int32)), (.int (0 : Int32)), (.int (0 : Int32)), (.int (0 : Int32)), (.int (0 : Int32)), (.int (0 : Int32)), (.int (0 : Int32)), (.int (0 : Int32)), (.int (0 : Int32)), (.int (0 : Int32)), (.int (0 : Int32)), (.int (0 : Int32)), (.int (0 : Int32)), (.int (0 : Int32)), (.int (0 : Int32)), (.int (0 : Int32)), (.int (0 : Int32)), (.int (0 : Int32)), (.int (0 : Int32)), (.int (0 : Int32)), (.int (0 : Int32)), (.int (0 : Int32)), (.int (0 : Int32)), (.int (0 : Int32)), (.int (0 : Int32)), (.int (0 : Int32)), (.int (0 : Int32)), (.int (0 : Int32)), (.int (0 : Int32)), (.int (0 : Int32)), (.int (0 : Int32)), (.int (0 : Int32)), (.int (0 : Int32)), (.int (0 : Int32)), (.int (0 : Int32)), (.int (0 : Int32)), (.int (0 : Int32)), (.int (0 : Int32)), (.int (0 : Int32)), (.int (0 : Int32)), (.int (0 : Int32)), (.int (0 : Int32)), (.int (0 : Int32)), (.int (0 : Int32)), (.int (0 : Int32)), (.int (0 : Int32)), (.int (0 : Int32)), (.int (0 : Int32)), (.int (0 : Int32)), (.int (0 : Int32)), (.int (0 : Int32)), (.int (0 : Int32))] y4 T20.heap n0 Z20 pv20_1 p20_2 p20_3 pv20_4 p20_0 g_a g_b2 ne_a_b2 (by decide) (by decide) rfl) (by rw [hml]; rfl) rfl [(.int y4)] rfl rfl (W := 0) (Nat.le_of_eq rfl) (by decide) (by decide) (by decide) (by decide) (lenOf pd_2 rfl) (hb hby d_prog_15_m_1_46) rfl fun v21 T21 L21 X21 hQ21 => ?_
  obtain ⟨rfl, Nq21, kc21, p21_0, p21_1, p21_2, p21_3, p21_4⟩ := hQ21
  have N21 := Fr.app N20 Nq21
  have kk21 : Keep h0 T21.heap [a] := kk20.trans kc21 (allS (Or.inl (by simp)) (allS (Or.inr sz_b2) all0))
  have Z21 : n0 ≤ T21.heap.size := Nat.le_trans Z20 kc21.1
  have pv21_1 : Fld Z T21.heap a "com/example/glowworm/glowworm/NetlinkWriter" "length" "I" (.int (16 : Int32)) := p21_1
  have pv21_4 : Arv Z T21.heap b2 ka2 .byte (64 : Int32) [(.int (0 : Int32)), (.int (0 : Int32)), (.int (0 : Int32)), (.int (0 : Int32)), (.int (y1.toInt8.toInt32)), (.int (((y1.toUInt32 >>> ((8 : Int32) &&& 31).toUInt32).toInt32).toInt8.toInt32)), (.int (y2.toInt8.toInt32)), (.int (((y2.toUInt32 >>> ((8 : Int32) &&& 31).toUInt32).toInt32).toInt8.toInt32)), (.int (y3.toInt8.toInt32)), (.int (((y3.toUInt32 >>> ((8 : Int32) &&& 31).toUInt32).toInt32).toInt8.toInt32)), (.int (((y3.toUInt32 >>> ((16 : Int32) &&& 31).toUInt32).toInt32).toInt8.toInt32)), (.int (((((y3.toUInt32 >>> ((16 : Int32) &&& 31).toUInt32).toInt32).toUInt32 >>> ((8 : Int32) &&& 31).toUInt32).toInt32).toInt8.toInt32)), (.int (y4.toInt8.toInt32)), (.int (((y4.toUInt32 >>> ((8 : Int32) &&& 31).toUInt32).toInt32).toInt8.toInt32)), (.int (((y4.toUInt32 >>> ((16 : Int32) &&& 31).toUInt32).toInt32).toInt8.toInt32)), (.int (((((y4.toUInt32 >>> ((16 : Int32) &&& 31).toUInt32).toInt32).toUInt32 >>> ((8 : Int32) &&& 31).toUInt32).toInt32).toInt8.toInt32)), (.int (0 : Int32)), (.int (0 : Int32)), (.int (0 : Int32)), (.int (0 : Int32)), (.int (0 : Int32)), (.int (0 : Int32)), (.int (0 : Int32)), (.int (0 : Int32)), (.int (0 : Int32)), (.int (0 : Int32)), (.int (0 : Int32)), (.int (0 : Int32)), (.int (0 : Int32)), (.int (0 : Int32)), (.int (0 : Int32)), (.int (0 : Int32)), (.int (0 : Int32)), (.int (0 : Int32)), (.int (0 : Int32)), (.int (0 : Int32)), (.int (0 : Int32)), (.int (0 : Int32)), (.int (0 : Int32)), (.int (0 : Int32)), (.int (0 : Int32)), (.int (0 : Int32)), (.int (0 : Int32)), (.int (0 : Int32)), (.int (0 : Int32)), (.int (0 : Int32)), (.int (0 : Int32)), (.int (0 : Int32)), (.int (0 : Int32)), (.int (0 : Int32)), (.int (0 : Int32)), (.int (0 : Int32)), (.int (0 : Int32)), (.int (0 : Int32)), (.int (0 : Int32)), (.int (0 : Int32)), (.int (0 : Int32)), (.int (0 : Int32)), (.int (0 : Int32)), (.int (0 : Int32)), (.int (0 : Int32)), (.int (0 : Int32)), (.int (0 : Int32)), (.int (0 : Int32))] (.int (0 : Int32)) := p21_4
  show Ga _ _ _ _ _ _ _ _ _ _ _ []
  have f22 : Exa Z T21.heap b6 "java/util/ArrayDeque" := ((((((p9_0.wr W10).keep kc13).keep kc18).keep kc19).keep kc20).keep kc21)
  have f23 : Fld Z T21.heap b6 "java/util/ArrayDeque" "head" "I" (.int (0 : Int32)) := ((((((p9_1.other W10 (Or.inl (Ne.symm ne_a_b6))).keep kc13 (ninS (Ne.symm ne_a_b6) (ninS (Ne.symm ne_b2_b6) nin0))).keep kc18 (ninS (Ne.symm ne_a_b6) (ninS (Ne.symm ne_b2_b6) nin0))).keep kc19 (ninS (Ne.symm ne_a_b6) (ninS (Ne.symm ne_b2_b6) nin0))).keep kc20 (ninS (Ne.symm ne_a_b6) (ninS (Ne.symm ne_b2_b6) nin0))).keep kc21 (ninS (Ne.symm ne_a_b6) (ninS (Ne.symm ne_b2_b6) nin0)))
  have f24 : Fld Z T21.heap b6 "java/util/ArrayDeque" "tail" "I" (.int (0 : Int32)) := ((((((p9_2.other W10 (Or.inl (Ne.symm ne_a_b6))).keep kc13 (ninS (Ne.symm ne_a_b6) (ninS (Ne.symm ne_b2_b6) nin0))).keep kc18 (ninS (Ne.symm ne_a_b6) (ninS (Ne.symm ne_b2_b6) nin0))).keep kc19 (ninS (Ne.symm ne_a_b6) (ninS (Ne.symm ne_b2_b6) nin0))).keep kc20 (ninS (Ne.symm ne_a_b6) (ninS (Ne.symm ne_b2_b6) nin0))).keep kc21 (ninS (Ne.symm ne_a_b6) (ninS (Ne.symm ne_b2_b6) nin0)))
  have f25 : Exa Z T21.heap b2 "[B" := (((((((((A2.wr W3).ext E6).keep kc9).wr W10).keep kc13).keep kc18).keep kc19).keep kc20).keep kc21)
  exact g_ret X21 hx hret hlk (hb hby d_prog_15_m_1_49) (by decide) (by decide) ⟨b2, ka2, b6, rfl, N21, kk21, sz_b2, sz_b6, ne_b2_b6, p21_0, f22, f23, f24, pv21_1, p21_2, p21_3, pv21_4, f25⟩
def Q_minX (Z : State) (x : Int32) (y : Int32) (h0 : Heap) (n0 : Nat) (v : Option Value) (h : Heap) (L : List Loc) : Prop := v = some (.int x) ∧ Fr n0 L ∧ h = h0
theorem ef_minX (m : MethodId) (x0 : Int32) (x1 : Int32) : entryFrame m #[(.int x0), (.int x1)] 2 = mkF m 0 #[.val (.int x0), .val (.int x1)] [] := by first | (simp [entryFrame, mkF, argsToLocals, Value.category]; done) | rfl
set_option maxRecDepth 65536 in
set_option maxHeartbeats 40000000 in
theorem rm_minX (l : Launch) (Z : State) (a0 : Array Value) (hw : ∀ d ∈ tables_1, d.before a0 Z = true) (x : Int32) (y : Int32) (h0 : Heap) (n0 : Nat) (Z0 : n0 ≤ h0.size) (hxy : ¬ y < x) :
    Ct l Z (⟨"java/lang/Math", "min", "(II)I"⟩ : MethodName) jdk_29_method_69_code 2 (some .int) [] ({ frames := 0, cells := 0, slots := 0, locals := 0 } : Room) #[(.int x), (.int y)] h0 (Q_minX Z x y h0 n0) := by
  refine own_body (Jvm.Free.JP.mathPlain rfl (by decide +kernel)) (fun m => ef_minX m x y) ?_
  intro p e s m below meth c T0 hx hby hml hZ hown hnm hret hlk X0 e0
  have N0 := Fr.nil n0
  refine g_iloadN X0 hx (hb hby d_jdk_29_m_69_0) rfl rfl ?_
  refine g_iloadN X0 hx (hb hby d_jdk_29_m_69_1) rfl rfl ?_
  have hc2 : ¬ y < x := hxy
  refine g_icmpN X0 hx (hb hby d_jdk_29_m_69_2) rfl (XT.ii_gt_f hc2) ?_
  refine g_iloadN X0 hx (hb hby d_jdk_29_m_69_5) rfl rfl ?_
  refine g_goto X0 hx (q := 10) (hb hby d_jdk_29_m_69_6) (by decide) (by decide) ?_
  exact g_retI X0 hx hret hlk (hb hby d_jdk_29_m_69_10) (by decide) (by decide) (by rw [e0]; exact ⟨rfl, N0, rfl⟩)
def Q_cpG64 (Z : State) (b : Addr) (ka : ClassId) (vs : List Value) (h0 : Heap) (n0 : Nat) (v : Option Value) (h : Heap) (L : List Loc) : Prop := ∃ (d : Addr) (kd : ClassId) (ds : List Value), v = some (.ref d) ∧ Fr n0 L ∧ Keep h0 h [] ∧ h0.size ≤ d ∧ Exa Z h d "[B" ∧ Arv Z h d kd .byte (128 : Int32) ds (.int (0 : Int32)) ∧ (ds.length = 128) ∧ (∀ j, j < 64 → ds.getD j (.int (0 : Int32)) = vs.getD j (.int (0 : Int32)))
theorem ef_cpG64 (m : MethodId) (x0 : Addr) (x1 : Int32) : entryFrame m #[(.ref x0), (.int x1)] 3 = mkF m 0 #[.val (.ref x0), .val (.int x1), .unset] [] := by first | (simp [entryFrame, mkF, argsToLocals, Value.category]; done) | rfl
set_option maxRecDepth 65536 in
set_option maxHeartbeats 40000000 in
theorem rm_cpG64 (l : Launch) (Z : State) (a0 : Array Value) (hw : ∀ d ∈ tables_1, d.before a0 Z = true) (b : Addr) (ka : ClassId) (vs : List Value) (h0 : Heap) (n0 : Nat) (Z0 : n0 ≤ h0.size) (V_b : Arv Z h0 b ka .byte (64 : Int32) vs (.int (0 : Int32))) :
    Ct l Z (⟨"java/util/Arrays", "copyOf", "([BI)[B"⟩ : MethodName) jdk_65_method_121_code 3 (some (.array .byte)) [] ({ frames := 1, cells := 1, slots := 128, locals := 18 } : Room) #[(.ref b), (.int (128 : Int32))] h0 (Q_cpG64 Z b ka vs h0 n0) := by
  refine own_body (plainFor_of_name pn_3) (fun m => ef_cpG64 m b (128 : Int32)) ?_
  intro p e s m below meth c T0 hx hby hml hZ hown hnm hret hlk X0 e0
  have N0 := Fr.nil n0
  refine g_iloadN X0 hx (hb hby d_jdk_65_m_121_0) rfl rfl ?_
  refine g_aloadN X0 hx (hb hby d_jdk_65_m_121_1) rfl rfl rfl ?_
  refine g_len X0 hx hZ e0 V_b (hb hby d_jdk_65_m_121_2) rfl ?_
  refine g_icmpY X0 hx (q := 14) (hb hby d_jdk_65_m_121_3) (XT.ii_ne_t (by decide : ¬ (128 : Int32) = (64 : Int32))) (by decide) (by decide) ?_
  refine g_iloadN X0 hx (hb hby d_jdk_65_m_121_14) rfl rfl ?_
  refine g_newarray X0 hx hZ (aty := .byte) (hw _ (List.mem_of_getElem? (i := 1) rfl)) e0 (by decide) 128 (by decide) (by decide) (by decide) (by decide) (ad := "[B") (by decide) (hb hby d_jdk_65_m_121_15) rfl fun T1 h1 b1 ka1 X1 e1 q1 E1 A1 V1 => ?_
  have ne_b_b1 : b ≠ b1 := own_ne V_b.lt q1
  have g_b1 : n0 ≤ b1 := Nat.le_trans Z0 (Nat.le_of_eq q1.symm)
  have sz_b1 : h0.size ≤ b1 := Nat.le_trans (Keep.refl h0 []).1 (Nat.le_of_eq q1.symm)
  have Z1 : n0 ≤ h1.size := Nat.le_trans Z0 E1.1
  have kk1 : Keep h0 h1 [] := (Keep.refl h0 []).ext E1
  have Vn1 : Arv Z h1 b1 ka1 .byte (128 : Int32) (List.replicate 128 (.int (0 : Int32))) (.int (0 : Int32)) := V1
  refine g_astoreN X1 hx (Ls' := #[.val (.ref b), .val (.int (128 : Int32)), .val (.ref b1)]) (hb hby d_jdk_65_m_121_17) rfl rfl rfl ?_
  refine g_aloadN X1 hx (hb hby d_jdk_65_m_121_18) rfl rfl rfl ?_
  refine g_iconst X1 hx (r := (0 : Int32)) (hb hby d_jdk_65_m_121_19) rfl rfl ?_
  refine g_aloadN X1 hx (hb hby d_jdk_65_m_121_20) rfl rfl rfl ?_
  refine g_iconst X1 hx (r := (0 : Int32)) (hb hby d_jdk_65_m_121_21) rfl rfl ?_
  refine g_aloadN X1 hx (hb hby d_jdk_65_m_121_22) rfl rfl rfl ?_
  have f2 : Arv Z h1 b ka .byte (64 : Int32) vs (.int (0 : Int32)) := (V_b.ext E1)
  refine g_len X1 hx hZ e1 f2 (hb hby d_jdk_65_m_121_23) rfl ?_
  refine g_iloadN X1 hx (hb hby d_jdk_65_m_121_24) rfl rfl ?_
  refine g_static X1 hx hZ hown (hw _ (List.mem_of_getElem? (i := 77) rfl)) (hw _ (List.mem_of_getElem? (i := 78) rfl)) (hw _ (List.mem_of_getElem? (i := 79) rfl)) (hw _ (List.mem_of_getElem? (i := 80) rfl)) (by decide) (rm_minX l Z a0 hw (64 : Int32) (128 : Int32) h1 n0 Z1 (by first | decide | assumption | rfl | (intro _; rfl))) (by rw [hml]; rfl) e1 [(.int (64 : Int32)), (.int (128 : Int32))] rfl rfl (W := 4) (Nat.le_of_eq rfl) (by decide) (by decide) (by decide) (by decide) (lenOf pd_3 rfl) (hb hby d_jdk_65_m_121_25) rfl fun v3 T3 L3 X3 hQ3 => ?_
  obtain ⟨rfl, Nq3, eh3⟩ := hQ3
  have N3 := Fr.app N0 Nq3
  show Ga _ _ _ _ _ _ _ _ _ _ _ [(.int (64 : Int32)), (.int (0 : Int32)), (.ref b1), (.int (0 : Int32)), (.ref b)]
  refine g_acopyP X3 hx hZ hown (hw _ (List.mem_of_getElem? (i := 81) rfl)) (hw _ (List.mem_of_getElem? (i := 84) rfl)) (hw _ (List.mem_of_getElem? (i := 82) rfl)) (hw _ (List.mem_of_getElem? (i := 83) rfl)) eh3 f2 Vn1 rfl (by decide) (by decide) (by decide) (by decide) N3 g_b1 (by rw [hml]; rfl) (hb hby d_jdk_65_m_121_28) rfl (by decide) (W := 0) (Nat.le_of_eq rfl) (by decide) fun T4 h4 L4 ds4 X4 e4 Nq4 kc4 V4 hdl4 hdg4 => ?_
  have Vn4 : Arv Z h4 b1 ka1 .byte (128 : Int32) ds4 (.int (0 : Int32)) := V4
  have kk4 : Keep h0 h4 [] := kk1.trans kc4 (allS (Or.inr sz_b1) all0)
  have Z4 : n0 ≤ h4.size := Nat.le_trans Z1 kc4.1
  refine g_aloadN X4 hx (hb hby d_jdk_65_m_121_31) rfl rfl rfl ?_
  have f5 : Exa Z h4 b1 "[B" := (A1.keep kc4)
  exact g_retR X4 hx hret hlk rfl rfl rfl (hb hby d_jdk_65_m_121_32) (by decide) (by decide) (by rw [e4]; exact ⟨b1, ka1, ds4, rfl, Nq4, kk4, sz_b1, f5, Vn4, (by rw [hdl4]; rfl), hdg4⟩)
def Q_putG64 (Z : State) (a : Addr) (b : Addr) (dq : Addr) (ka : ClassId) (vs : List Value) (x : Int32) (h0 : Heap) (n0 : Nat) (v : Option Value) (h : Heap) (L : List Loc) : Prop := ∃ (d : Addr) (kd : ClassId) (dt : List Value), v = none ∧ Fr n0 L ∧ Keep h0 h [a] ∧ h0.size ≤ d ∧ Exa Z h a "com/example/glowworm/glowworm/NetlinkWriter" ∧ Exa Z h d "[B" ∧ Fld Z h a "com/example/glowworm/glowworm/NetlinkWriter" "length" "I" (.int (65 : Int32)) ∧ Fld Z h a "com/example/glowworm/glowworm/NetlinkWriter" "bytes" "[B" (.ref d) ∧ Fld Z h a "com/example/glowworm/glowworm/NetlinkWriter" "openNests" "Ljava/util/Deque;" (.ref dq) ∧ Arv Z h d kd .byte (128 : Int32) dt (.int (0 : Int32)) ∧ (dt.length = 128) ∧ (∀ j, j < 64 → dt.getD j (.int (0 : Int32)) = vs.getD j (.int (0 : Int32))) ∧ (dt.getD 64 (.int (0 : Int32)) = .int x)
theorem ef_putG64 (m : MethodId) (x0 : Addr) (x1 : Int32) : entryFrame m #[(.ref x0), (.int x1)] 2 = mkF m 0 #[.val (.ref x0), .val (.int x1)] [] := by first | (simp [entryFrame, mkF, argsToLocals, Value.category]; done) | rfl
set_option maxRecDepth 65536 in
set_option maxHeartbeats 40000000 in
theorem rm_putG64 (l : Launch) (Z : State) (a0 : Array Value) (hw : ∀ d ∈ tables_1, d.before a0 Z = true) (a : Addr) (b : Addr) (dq : Addr) (ka : ClassId) (vs : List Value) (x : Int32) (h0 : Heap) (n0 : Nat) (Z0 : n0 ≤ h0.size) (F_length_a : Fld Z h0 a "com/example/glowworm/glowworm/NetlinkWriter" "length" "I" (.int (64 : Int32))) (F_bytes_a : Fld Z h0 a "com/example/glowworm/glowworm/NetlinkWriter" "bytes" "[B" (.ref b)) (F_openNests_a : Fld Z h0 a "com/example/glowworm/glowworm/NetlinkWriter" "openNests" "Ljava/util/Deque;" (.ref dq)) (V_b : Arv Z h0 b ka .byte (64 : Int32) vs (.int (0 : Int32))) (E_a : Exa Z h0 a "com/example/glowworm/glowworm/NetlinkWriter") (g_a : n0 ≤ a) (g_b : n0 ≤ b) (ne_a_b : a ≠ b) (hxb : x.toInt8.toInt32 = x) :
    Ct l Z (⟨"com/example/glowworm/glowworm/NetlinkWriter", "put", "(B)V"⟩ : MethodName) prog_15_method_19_code 2 none [] ({ frames := 2, cells := 1, slots := 128, locals := 33 } : Room) #[(.ref a), (.int x)] h0 (Q_putG64 Z a b dq ka vs x h0 n0) := by
  refine own_body (plainFor_of_name pn_2) (fun m => ef_putG64 m a x) ?_
  intro p e s m below meth c T0 hx hby hml hZ hown hnm hret hlk X0 e0
  have N0 := Fr.nil n0
  refine g_aloadN X0 hx (hb hby d_prog_15_m_19_0) rfl rfl rfl ?_
  refine g_getF X0 hx hZ hown (host := "") (Or.inl (hw _ (List.mem_of_getElem? (i := 44) rfl))) Via.refl e0 F_length_a (hb hby d_prog_15_m_19_1) rfl fun T1 X1 e1 => ?_
  refine g_aloadN X1 hx (hb hby d_prog_15_m_19_4) rfl rfl rfl ?_
  refine g_getF X1 hx hZ hown (host := "") (Or.inl (hw _ (List.mem_of_getElem? (i := 11) rfl))) Via.refl e1 F_bytes_a (hb hby d_prog_15_m_19_5) rfl fun T2 X2 e2 => ?_
  refine g_len X2 hx hZ e2 V_b (hb hby d_prog_15_m_19_8) rfl ?_
  refine g_icmpN X2 hx (hb hby d_prog_15_m_19_9) rfl (XT.ii_ne_f (by decide : (64 : Int32) = (64 : Int32))) ?_
  refine g_aloadN X2 hx (hb hby d_prog_15_m_19_12) rfl rfl rfl ?_
  refine g_aloadN X2 hx (hb hby d_prog_15_m_19_13) rfl rfl rfl ?_
  refine g_getF X2 hx hZ hown (host := "") (Or.inl (hw _ (List.mem_of_getElem? (i := 11) rfl))) Via.refl e2 F_bytes_a (hb hby d_prog_15_m_19_14) rfl fun T3 X3 e3 => ?_
  refine g_aloadN X3 hx (hb hby d_prog_15_m_19_17) rfl rfl rfl ?_
  refine g_getF X3 hx hZ hown (host := "") (Or.inl (hw _ (List.mem_of_getElem? (i := 11) rfl))) Via.refl e3 F_bytes_a (hb hby d_prog_15_m_19_18) rfl fun T4 X4 e4 => ?_
  refine g_len X4 hx hZ e4 V_b (hb hby d_prog_15_m_19_21) rfl ?_
  refine g_iconst X4 hx (r := (2 : Int32)) (hb hby d_prog_15_m_19_22) rfl rfl ?_
  refine g_imul X4 hx (r := (128 : Int32)) (hb hby d_prog_15_m_19_23) rfl rfl ?_
  refine g_static X4 hx hZ hown (hw _ (List.mem_of_getElem? (i := 73) rfl)) (hw _ (List.mem_of_getElem? (i := 74) rfl)) (hw _ (List.mem_of_getElem? (i := 75) rfl)) (hw _ (List.mem_of_getElem? (i := 76) rfl)) (by decide) (rm_cpG64 l Z a0 hw b ka vs h0 n0 Z0 V_b) (by rw [hml]; rfl) e4 [(.ref b), (.int (128 : Int32))] rfl rfl (W := 1) (Nat.le_of_eq rfl) (by decide) (by decide) (by decide) (by decide) (lenOf pd_4 rfl) (hb hby d_prog_15_m_19_24) rfl fun v5 T5 L5 X5 hQ5 => ?_
  obtain ⟨d_5, kd_5, ds_5, rfl, Nq5, kc5, p5_0, p5_1, p5_2, p5_3, p5_4⟩ := hQ5
  have N5 := Fr.app N0 Nq5
  have ne_a_d_5 : a ≠ d_5 := own_neK F_length_a.lt p5_0
  have ne_b_d_5 : b ≠ d_5 := own_neK V_b.lt p5_0
  have g_d_5 : n0 ≤ d_5 := Nat.le_trans Z0 p5_0
  have sz_d_5 : h0.size ≤ d_5 := Nat.le_trans (Keep.refl h0 [a]).1 p5_0
  have kk5 : Keep h0 T5.heap [a] := (Keep.refl h0 [a]).trans kc5 all0
  have Z5 : n0 ≤ T5.heap.size := Nat.le_trans Z0 kc5.1
  have hdl_5 := p5_3
  have hdg_5 := p5_4
  show Ga _ _ _ _ _ _ _ _ _ _ _ [(.ref d_5), (.ref a)]
  have f7 : Fld Z T5.heap a "com/example/glowworm/glowworm/NetlinkWriter" "bytes" "[B" (.ref b) := (F_bytes_a.keep kc5 nin0)
  have f8 : Exa Z T5.heap a "com/example/glowworm/glowworm/NetlinkWriter" := (E_a.keep kc5)
  refine g_putF X5 hx hZ hown (host := "") (Or.inl (hw _ (List.mem_of_getElem? (i := 11) rfl))) Via.refl rfl f7 f8 (Or.inl (hw _ (List.mem_of_getElem? (i := 12) rfl))) (hw _ (List.mem_of_getElem? (i := 3) rfl)) (ty := (.array .byte)) (by decide) rfl rfl (hb hby d_prog_15_m_19_27) rfl fun T6 h6 X6 e6 W6 F6 => ?_
  have kk6 : Keep h0 h6 [a] := kk5.wr W6 (Or.inl (by simp))
  have N6 := Fr.snoc X6 N5 g_a
  have Z6 : n0 ≤ h6.size := by rw [W6.size]; exact Z5
  refine g_aloadN X6 hx (hb hby d_prog_15_m_19_30) rfl rfl rfl ?_
  refine g_getF X6 hx hZ hown (host := "") (Or.inl (hw _ (List.mem_of_getElem? (i := 11) rfl))) Via.refl e6 F6 (hb hby d_prog_15_m_19_31) rfl fun T9 X9 e9 => ?_
  refine g_aloadN X9 hx (hb hby d_prog_15_m_19_34) rfl rfl rfl ?_
  refine g_dup X9 hx (hb hby d_prog_15_m_19_35) rfl rfl ?_
  have f11 : Fld Z h6 a "com/example/glowworm/glowworm/NetlinkWriter" "length" "I" (.int (64 : Int32)) := ((F_length_a.keep kc5 nin0).other W6 (Or.inr (slot_ne (Or.inl (hw _ (List.mem_of_getElem? (i := 45) rfl))) (Or.inl (hw _ (List.mem_of_getElem? (i := 12) rfl))) (by decide) (t := .int) (t' := (.array .byte)) (by decide) (by decide))))
  refine g_getF X9 hx hZ hown (host := "") (Or.inl (hw _ (List.mem_of_getElem? (i := 44) rfl))) Via.refl e9 f11 (hb hby d_prog_15_m_19_36) rfl fun T10 X10 e10 => ?_
  refine g_dup_x1 X10 hx (hb hby d_prog_15_m_19_39) rfl rfl rfl ?_
  refine g_iconst X10 hx (r := (1 : Int32)) (hb hby d_prog_15_m_19_40) rfl rfl ?_
  refine g_iadd X10 hx (r := (65 : Int32)) (hb hby d_prog_15_m_19_41) rfl rfl ?_
  have f13 : Exa Z h6 a "com/example/glowworm/glowworm/NetlinkWriter" := (f8.wr W6)
  refine g_putF X10 hx hZ hown (host := "") (Or.inl (hw _ (List.mem_of_getElem? (i := 44) rfl))) Via.refl e10 f11 f13 (Or.inl (hw _ (List.mem_of_getElem? (i := 45) rfl))) (hw _ (List.mem_of_getElem? (i := 3) rfl)) (ty := .int) (by decide) rfl rfl (hb hby d_prog_15_m_19_42) rfl fun T12 h12 X12 e12 W12 F12 => ?_
  have kk12 : Keep h0 h12 [a] := kk6.wr W12 (Or.inl (by simp))
  have N12 := Fr.snoc X12 N6 g_a
  have Z12 : n0 ≤ h12.size := by rw [W12.size]; exact Z6
  refine g_iloadN X12 hx (hb hby d_prog_15_m_19_45) rfl rfl ?_
  have f14 : Arv Z h12 d_5 kd_5 .byte (128 : Int32) ds_5 (.int (0 : Int32)) := ((p5_2.other W6 (Ne.symm ne_a_d_5)).other W12 (Ne.symm ne_a_d_5))
  refine g_bastore X12 hx hZ e12 f14 ⟨by decide, by decide⟩ (by rw [hdl_5]; decide) (hb hby d_prog_15_m_19_46) rfl fun T15 h15 X15 e15 W15 V15 => ?_
  rw [own_nar, hxb] at V15
  have Vn15 : Arv Z h15 d_5 kd_5 .byte (128 : Int32) (List.set ds_5 ((64 : Int32)).toNatClampNeg (.int x)) (.int (0 : Int32)) := V15
  have kk15 : Keep h0 h15 [a] := kk12.wr W15 (Or.inr sz_d_5)
  have N15 := Fr.snoc X15 N12 g_d_5
  have Z15 : n0 ≤ h15.size := by rw [W15.size]; exact Z12
  have f16 : Exa Z h15 a "com/example/glowworm/glowworm/NetlinkWriter" := ((f13.wr W12).wr W15)
  have f17 : Exa Z h15 d_5 "[B" := (((p5_1.wr W6).wr W12).wr W15)
  have f18 : Fld Z h15 a "com/example/glowworm/glowworm/NetlinkWriter" "length" "I" (.int (65 : Int32)) := (F12.other W15 (Or.inl ne_a_d_5))
  have f19 : Fld Z h15 a "com/example/glowworm/glowworm/NetlinkWriter" "bytes" "[B" (.ref d_5) := ((F6.other W12 (Or.inr (slot_ne (Or.inl (hw _ (List.mem_of_getElem? (i := 12) rfl))) (Or.inl (hw _ (List.mem_of_getElem? (i := 45) rfl))) (by decide) (t := (.array .byte)) (t' := .int) (by decide) (by decide)))).other W15 (Or.inl ne_a_d_5))
  have f20 : Fld Z h15 a "com/example/glowworm/glowworm/NetlinkWriter" "openNests" "Ljava/util/Deque;" (.ref dq) := ((((F_openNests_a.keep kc5 nin0).other W6 (Or.inr (slot_ne (Or.inr (hw _ (List.mem_of_getElem? (i := 31) rfl))) (Or.inl (hw _ (List.mem_of_getElem? (i := 12) rfl))) (by decide) (t := (.object "java/util/Deque")) (t' := (.array .byte)) (by decide) (by decide)))).other W12 (Or.inr (slot_ne (Or.inr (hw _ (List.mem_of_getElem? (i := 31) rfl))) (Or.inl (hw _ (List.mem_of_getElem? (i := 45) rfl))) (by decide) (t := (.object "java/util/Deque")) (t' := .int) (by decide) (by decide)))).other W15 (Or.inl ne_a_d_5))
  exact g_ret X15 hx hret hlk (hb hby d_prog_15_m_19_47) (by decide) (by decide) (by rw [e15]; exact ⟨d_5, kd_5, (List.set ds_5 ((64 : Int32)).toNatClampNeg (.int x)), rfl, N15, kk15, sz_d_5, f16, f17, f18, f19, f20, Vn15, (by rw [List.length_set]; exact hdl_5), (fun j hj => (own_setne (Nat.ne_of_gt hj)).trans (hdg_5 j hj)), (own_setat (by rw [hdl_5]; decide))⟩)
def Q_cpG128 (Z : State) (b : Addr) (ka : ClassId) (vs : List Value) (h0 : Heap) (n0 : Nat) (v : Option Value) (h : Heap) (L : List Loc) : Prop := ∃ (d : Addr) (kd : ClassId) (ds : List Value), v = some (.ref d) ∧ Fr n0 L ∧ Keep h0 h [] ∧ h0.size ≤ d ∧ Exa Z h d "[B" ∧ Arv Z h d kd .byte (256 : Int32) ds (.int (0 : Int32)) ∧ (ds.length = 256) ∧ (∀ j, j < 128 → ds.getD j (.int (0 : Int32)) = vs.getD j (.int (0 : Int32)))
theorem ef_cpG128 (m : MethodId) (x0 : Addr) (x1 : Int32) : entryFrame m #[(.ref x0), (.int x1)] 3 = mkF m 0 #[.val (.ref x0), .val (.int x1), .unset] [] := by first | (simp [entryFrame, mkF, argsToLocals, Value.category]; done) | rfl
set_option maxRecDepth 65536 in
set_option maxHeartbeats 40000000 in
theorem rm_cpG128 (l : Launch) (Z : State) (a0 : Array Value) (hw : ∀ d ∈ tables_1, d.before a0 Z = true) (b : Addr) (ka : ClassId) (vs : List Value) (h0 : Heap) (n0 : Nat) (Z0 : n0 ≤ h0.size) (V_b : Arv Z h0 b ka .byte (128 : Int32) vs (.int (0 : Int32))) :
    Ct l Z (⟨"java/util/Arrays", "copyOf", "([BI)[B"⟩ : MethodName) jdk_65_method_121_code 3 (some (.array .byte)) [] ({ frames := 1, cells := 1, slots := 256, locals := 18 } : Room) #[(.ref b), (.int (256 : Int32))] h0 (Q_cpG128 Z b ka vs h0 n0) := by
  refine own_body (plainFor_of_name pn_3) (fun m => ef_cpG128 m b (256 : Int32)) ?_
  intro p e s m below meth c T0 hx hby hml hZ hown hnm hret hlk X0 e0
  have N0 := Fr.nil n0
  refine g_iloadN X0 hx (hb hby d_jdk_65_m_121_0) rfl rfl ?_
  refine g_aloadN X0 hx (hb hby d_jdk_65_m_121_1) rfl rfl rfl ?_
  refine g_len X0 hx hZ e0 V_b (hb hby d_jdk_65_m_121_2) rfl ?_
  refine g_icmpY X0 hx (q := 14) (hb hby d_jdk_65_m_121_3) (XT.ii_ne_t (by decide : ¬ (256 : Int32) = (128 : Int32))) (by decide) (by decide) ?_
  refine g_iloadN X0 hx (hb hby d_jdk_65_m_121_14) rfl rfl ?_
  refine g_newarray X0 hx hZ (aty := .byte) (hw _ (List.mem_of_getElem? (i := 1) rfl)) e0 (by decide) 256 (by decide) (by decide) (by decide) (by decide) (ad := "[B") (by decide) (hb hby d_jdk_65_m_121_15) rfl fun T1 h1 b1 ka1 X1 e1 q1 E1 A1 V1 => ?_
  have ne_b_b1 : b ≠ b1 := own_ne V_b.lt q1
  have g_b1 : n0 ≤ b1 := Nat.le_trans Z0 (Nat.le_of_eq q1.symm)
  have sz_b1 : h0.size ≤ b1 := Nat.le_trans (Keep.refl h0 []).1 (Nat.le_of_eq q1.symm)
  have Z1 : n0 ≤ h1.size := Nat.le_trans Z0 E1.1
  have kk1 : Keep h0 h1 [] := (Keep.refl h0 []).ext E1
  have Vn1 : Arv Z h1 b1 ka1 .byte (256 : Int32) (List.replicate 256 (.int (0 : Int32))) (.int (0 : Int32)) := V1
  refine g_astoreN X1 hx (Ls' := #[.val (.ref b), .val (.int (256 : Int32)), .val (.ref b1)]) (hb hby d_jdk_65_m_121_17) rfl rfl rfl ?_
  refine g_aloadN X1 hx (hb hby d_jdk_65_m_121_18) rfl rfl rfl ?_
  refine g_iconst X1 hx (r := (0 : Int32)) (hb hby d_jdk_65_m_121_19) rfl rfl ?_
  refine g_aloadN X1 hx (hb hby d_jdk_65_m_121_20) rfl rfl rfl ?_
  refine g_iconst X1 hx (r := (0 : Int32)) (hb hby d_jdk_65_m_121_21) rfl rfl ?_
  refine g_aloadN X1 hx (hb hby d_jdk_65_m_121_22) rfl rfl rfl ?_
  have f2 : Arv Z h1 b ka .byte (128 : Int32) vs (.int (0 : Int32)) := (V_b.ext E1)
  refine g_len X1 hx hZ e1 f2 (hb hby d_jdk_65_m_121_23) rfl ?_
  refine g_iloadN X1 hx (hb hby d_jdk_65_m_121_24) rfl rfl ?_
  refine g_static X1 hx hZ hown (hw _ (List.mem_of_getElem? (i := 77) rfl)) (hw _ (List.mem_of_getElem? (i := 78) rfl)) (hw _ (List.mem_of_getElem? (i := 79) rfl)) (hw _ (List.mem_of_getElem? (i := 80) rfl)) (by decide) (rm_minX l Z a0 hw (128 : Int32) (256 : Int32) h1 n0 Z1 (by first | decide | assumption | rfl | (intro _; rfl))) (by rw [hml]; rfl) e1 [(.int (128 : Int32)), (.int (256 : Int32))] rfl rfl (W := 4) (Nat.le_of_eq rfl) (by decide) (by decide) (by decide) (by decide) (lenOf pd_3 rfl) (hb hby d_jdk_65_m_121_25) rfl fun v3 T3 L3 X3 hQ3 => ?_
  obtain ⟨rfl, Nq3, eh3⟩ := hQ3
  have N3 := Fr.app N0 Nq3
  show Ga _ _ _ _ _ _ _ _ _ _ _ [(.int (128 : Int32)), (.int (0 : Int32)), (.ref b1), (.int (0 : Int32)), (.ref b)]
  refine g_acopyP X3 hx hZ hown (hw _ (List.mem_of_getElem? (i := 81) rfl)) (hw _ (List.mem_of_getElem? (i := 84) rfl)) (hw _ (List.mem_of_getElem? (i := 82) rfl)) (hw _ (List.mem_of_getElem? (i := 83) rfl)) eh3 f2 Vn1 rfl (by decide) (by decide) (by decide) (by decide) N3 g_b1 (by rw [hml]; rfl) (hb hby d_jdk_65_m_121_28) rfl (by decide) (W := 0) (Nat.le_of_eq rfl) (by decide) fun T4 h4 L4 ds4 X4 e4 Nq4 kc4 V4 hdl4 hdg4 => ?_
  have Vn4 : Arv Z h4 b1 ka1 .byte (256 : Int32) ds4 (.int (0 : Int32)) := V4
  have kk4 : Keep h0 h4 [] := kk1.trans kc4 (allS (Or.inr sz_b1) all0)
  have Z4 : n0 ≤ h4.size := Nat.le_trans Z1 kc4.1
  refine g_aloadN X4 hx (hb hby d_jdk_65_m_121_31) rfl rfl rfl ?_
  have f5 : Exa Z h4 b1 "[B" := (A1.keep kc4)
  exact g_retR X4 hx hret hlk rfl rfl rfl (hb hby d_jdk_65_m_121_32) (by decide) (by decide) (by rw [e4]; exact ⟨b1, ka1, ds4, rfl, Nq4, kk4, sz_b1, f5, Vn4, (by rw [hdl4]; rfl), hdg4⟩)
def Q_putG128 (Z : State) (a : Addr) (b : Addr) (dq : Addr) (ka : ClassId) (vs : List Value) (x : Int32) (h0 : Heap) (n0 : Nat) (v : Option Value) (h : Heap) (L : List Loc) : Prop := ∃ (d : Addr) (kd : ClassId) (dt : List Value), v = none ∧ Fr n0 L ∧ Keep h0 h [a] ∧ h0.size ≤ d ∧ Exa Z h a "com/example/glowworm/glowworm/NetlinkWriter" ∧ Exa Z h d "[B" ∧ Fld Z h a "com/example/glowworm/glowworm/NetlinkWriter" "length" "I" (.int (129 : Int32)) ∧ Fld Z h a "com/example/glowworm/glowworm/NetlinkWriter" "bytes" "[B" (.ref d) ∧ Fld Z h a "com/example/glowworm/glowworm/NetlinkWriter" "openNests" "Ljava/util/Deque;" (.ref dq) ∧ Arv Z h d kd .byte (256 : Int32) dt (.int (0 : Int32)) ∧ (dt.length = 256) ∧ (∀ j, j < 128 → dt.getD j (.int (0 : Int32)) = vs.getD j (.int (0 : Int32))) ∧ (dt.getD 128 (.int (0 : Int32)) = .int x)
theorem ef_putG128 (m : MethodId) (x0 : Addr) (x1 : Int32) : entryFrame m #[(.ref x0), (.int x1)] 2 = mkF m 0 #[.val (.ref x0), .val (.int x1)] [] := by first | (simp [entryFrame, mkF, argsToLocals, Value.category]; done) | rfl
set_option maxRecDepth 65536 in
set_option maxHeartbeats 40000000 in
theorem rm_putG128 (l : Launch) (Z : State) (a0 : Array Value) (hw : ∀ d ∈ tables_1, d.before a0 Z = true) (a : Addr) (b : Addr) (dq : Addr) (ka : ClassId) (vs : List Value) (x : Int32) (h0 : Heap) (n0 : Nat) (Z0 : n0 ≤ h0.size) (F_length_a : Fld Z h0 a "com/example/glowworm/glowworm/NetlinkWriter" "length" "I" (.int (128 : Int32))) (F_bytes_a : Fld Z h0 a "com/example/glowworm/glowworm/NetlinkWriter" "bytes" "[B" (.ref b)) (F_openNests_a : Fld Z h0 a "com/example/glowworm/glowworm/NetlinkWriter" "openNests" "Ljava/util/Deque;" (.ref dq)) (V_b : Arv Z h0 b ka .byte (128 : Int32) vs (.int (0 : Int32))) (E_a : Exa Z h0 a "com/example/glowworm/glowworm/NetlinkWriter") (g_a : n0 ≤ a) (g_b : n0 ≤ b) (ne_a_b : a ≠ b) (hxb : x.toInt8.toInt32 = x) :
    Ct l Z (⟨"com/example/glowworm/glowworm/NetlinkWriter", "put", "(B)V"⟩ : MethodName) prog_15_method_19_code 2 none [] ({ frames := 2, cells := 1, slots := 256, locals := 33 } : Room) #[(.ref a), (.int x)] h0 (Q_putG128 Z a b dq ka vs x h0 n0) := by
  refine own_body (plainFor_of_name pn_2) (fun m => ef_putG128 m a x) ?_
  intro p e s m below meth c T0 hx hby hml hZ hown hnm hret hlk X0 e0
  have N0 := Fr.nil n0
  refine g_aloadN X0 hx (hb hby d_prog_15_m_19_0) rfl rfl rfl ?_
  refine g_getF X0 hx hZ hown (host := "") (Or.inl (hw _ (List.mem_of_getElem? (i := 44) rfl))) Via.refl e0 F_length_a (hb hby d_prog_15_m_19_1) rfl fun T1 X1 e1 => ?_
  refine g_aloadN X1 hx (hb hby d_prog_15_m_19_4) rfl rfl rfl ?_
  refine g_getF X1 hx hZ hown (host := "") (Or.inl (hw _ (List.mem_of_getElem? (i := 11) rfl))) Via.refl e1 F_bytes_a (hb hby d_prog_15_m_19_5) rfl fun T2 X2 e2 => ?_
  refine g_len X2 hx hZ e2 V_b (hb hby d_prog_15_m_19_8) rfl ?_
  refine g_icmpN X2 hx (hb hby d_prog_15_m_19_9) rfl (XT.ii_ne_f (by decide : (128 : Int32) = (128 : Int32))) ?_
  refine g_aloadN X2 hx (hb hby d_prog_15_m_19_12) rfl rfl rfl ?_
  refine g_aloadN X2 hx (hb hby d_prog_15_m_19_13) rfl rfl rfl ?_
  refine g_getF X2 hx hZ hown (host := "") (Or.inl (hw _ (List.mem_of_getElem? (i := 11) rfl))) Via.refl e2 F_bytes_a (hb hby d_prog_15_m_19_14) rfl fun T3 X3 e3 => ?_
  refine g_aloadN X3 hx (hb hby d_prog_15_m_19_17) rfl rfl rfl ?_
  refine g_getF X3 hx hZ hown (host := "") (Or.inl (hw _ (List.mem_of_getElem? (i := 11) rfl))) Via.refl e3 F_bytes_a (hb hby d_prog_15_m_19_18) rfl fun T4 X4 e4 => ?_
  refine g_len X4 hx hZ e4 V_b (hb hby d_prog_15_m_19_21) rfl ?_
  refine g_iconst X4 hx (r := (2 : Int32)) (hb hby d_prog_15_m_19_22) rfl rfl ?_
  refine g_imul X4 hx (r := (256 : Int32)) (hb hby d_prog_15_m_19_23) rfl rfl ?_
  refine g_static X4 hx hZ hown (hw _ (List.mem_of_getElem? (i := 73) rfl)) (hw _ (List.mem_of_getElem? (i := 74) rfl)) (hw _ (List.mem_of_getElem? (i := 75) rfl)) (hw _ (List.mem_of_getElem? (i := 76) rfl)) (by decide) (rm_cpG128 l Z a0 hw b ka vs h0 n0 Z0 V_b) (by rw [hml]; rfl) e4 [(.ref b), (.int (256 : Int32))] rfl rfl (W := 1) (Nat.le_of_eq rfl) (by decide) (by decide) (by decide) (by decide) (lenOf pd_4 rfl) (hb hby d_prog_15_m_19_24) rfl fun v5 T5 L5 X5 hQ5 => ?_
  obtain ⟨d_5, kd_5, ds_5, rfl, Nq5, kc5, p5_0, p5_1, p5_2, p5_3, p5_4⟩ := hQ5
  have N5 := Fr.app N0 Nq5
  have ne_a_d_5 : a ≠ d_5 := own_neK F_length_a.lt p5_0
  have ne_b_d_5 : b ≠ d_5 := own_neK V_b.lt p5_0
  have g_d_5 : n0 ≤ d_5 := Nat.le_trans Z0 p5_0
  have sz_d_5 : h0.size ≤ d_5 := Nat.le_trans (Keep.refl h0 [a]).1 p5_0
  have kk5 : Keep h0 T5.heap [a] := (Keep.refl h0 [a]).trans kc5 all0
  have Z5 : n0 ≤ T5.heap.size := Nat.le_trans Z0 kc5.1
  have hdl_5 := p5_3
  have hdg_5 := p5_4
  show Ga _ _ _ _ _ _ _ _ _ _ _ [(.ref d_5), (.ref a)]
  have f7 : Fld Z T5.heap a "com/example/glowworm/glowworm/NetlinkWriter" "bytes" "[B" (.ref b) := (F_bytes_a.keep kc5 nin0)
  have f8 : Exa Z T5.heap a "com/example/glowworm/glowworm/NetlinkWriter" := (E_a.keep kc5)
  refine g_putF X5 hx hZ hown (host := "") (Or.inl (hw _ (List.mem_of_getElem? (i := 11) rfl))) Via.refl rfl f7 f8 (Or.inl (hw _ (List.mem_of_getElem? (i := 12) rfl))) (hw _ (List.mem_of_getElem? (i := 3) rfl)) (ty := (.array .byte)) (by decide) rfl rfl (hb hby d_prog_15_m_19_27) rfl fun T6 h6 X6 e6 W6 F6 => ?_
  have kk6 : Keep h0 h6 [a] := kk5.wr W6 (Or.inl (by simp))
  have N6 := Fr.snoc X6 N5 g_a
  have Z6 : n0 ≤ h6.size := by rw [W6.size]; exact Z5
  refine g_aloadN X6 hx (hb hby d_prog_15_m_19_30) rfl rfl rfl ?_
  refine g_getF X6 hx hZ hown (host := "") (Or.inl (hw _ (List.mem_of_getElem? (i := 11) rfl))) Via.refl e6 F6 (hb hby d_prog_15_m_19_31) rfl fun T9 X9 e9 => ?_
  refine g_aloadN X9 hx (hb hby d_prog_15_m_19_34) rfl rfl rfl ?_
  refine g_dup X9 hx (hb hby d_prog_15_m_19_35) rfl rfl ?_
  have f11 : Fld Z h6 a "com/example/glowworm/glowworm/NetlinkWriter" "length" "I" (.int (128 : Int32)) := ((F_length_a.keep kc5 nin0).other W6 (Or.inr (slot_ne (Or.inl (hw _ (List.mem_of_getElem? (i := 45) rfl))) (Or.inl (hw _ (List.mem_of_getElem? (i := 12) rfl))) (by decide) (t := .int) (t' := (.array .byte)) (by decide) (by decide))))
  refine g_getF X9 hx hZ hown (host := "") (Or.inl (hw _ (List.mem_of_getElem? (i := 44) rfl))) Via.refl e9 f11 (hb hby d_prog_15_m_19_36) rfl fun T10 X10 e10 => ?_
  refine g_dup_x1 X10 hx (hb hby d_prog_15_m_19_39) rfl rfl rfl ?_
  refine g_iconst X10 hx (r := (1 : Int32)) (hb hby d_prog_15_m_19_40) rfl rfl ?_
  refine g_iadd X10 hx (r := (129 : Int32)) (hb hby d_prog_15_m_19_41) rfl rfl ?_
  have f13 : Exa Z h6 a "com/example/glowworm/glowworm/NetlinkWriter" := (f8.wr W6)
  refine g_putF X10 hx hZ hown (host := "") (Or.inl (hw _ (List.mem_of_getElem? (i := 44) rfl))) Via.refl e10 f11 f13 (Or.inl (hw _ (List.mem_of_getElem? (i := 45) rfl))) (hw _ (List.mem_of_getElem? (i := 3) rfl)) (ty := .int) (by decide) rfl rfl (hb hby d_prog_15_m_19_42) rfl fun T12 h12 X12 e12 W12 F12 => ?_
  have kk12 : Keep h0 h12 [a] := kk6.wr W12 (Or.inl (by simp))
  have N12 := Fr.snoc X12 N6 g_a
  have Z12 : n0 ≤ h12.size := by rw [W12.size]; exact Z6
  refine g_iloadN X12 hx (hb hby d_prog_15_m_19_45) rfl rfl ?_
  have f14 : Arv Z h12 d_5 kd_5 .byte (256 : Int32) ds_5 (.int (0 : Int32)) := ((p5_2.other W6 (Ne.symm ne_a_d_5)).other W12 (Ne.symm ne_a_d_5))
  refine g_bastore X12 hx hZ e12 f14 ⟨by decide, by decide⟩ (by rw [hdl_5]; decide) (hb hby d_prog_15_m_19_46) rfl fun T15 h15 X15 e15 W15 V15 => ?_
  rw [own_nar, hxb] at V15
  have Vn15 : Arv Z h15 d_5 kd_5 .byte (256 : Int32) (List.set ds_5 ((128 : Int32)).toNatClampNeg (.int x)) (.int (0 : Int32)) := V15
  have kk15 : Keep h0 h15 [a] := kk12.wr W15 (Or.inr sz_d_5)
  have N15 := Fr.snoc X15 N12 g_d_5
  have Z15 : n0 ≤ h15.size := by rw [W15.size]; exact Z12
  have f16 : Exa Z h15 a "com/example/glowworm/glowworm/NetlinkWriter" := ((f13.wr W12).wr W15)
  have f17 : Exa Z h15 d_5 "[B" := (((p5_1.wr W6).wr W12).wr W15)
  have f18 : Fld Z h15 a "com/example/glowworm/glowworm/NetlinkWriter" "length" "I" (.int (129 : Int32)) := (F12.other W15 (Or.inl ne_a_d_5))
  have f19 : Fld Z h15 a "com/example/glowworm/glowworm/NetlinkWriter" "bytes" "[B" (.ref d_5) := ((F6.other W12 (Or.inr (slot_ne (Or.inl (hw _ (List.mem_of_getElem? (i := 12) rfl))) (Or.inl (hw _ (List.mem_of_getElem? (i := 45) rfl))) (by decide) (t := (.array .byte)) (t' := .int) (by decide) (by decide)))).other W15 (Or.inl ne_a_d_5))
  have f20 : Fld Z h15 a "com/example/glowworm/glowworm/NetlinkWriter" "openNests" "Ljava/util/Deque;" (.ref dq) := ((((F_openNests_a.keep kc5 nin0).other W6 (Or.inr (slot_ne (Or.inr (hw _ (List.mem_of_getElem? (i := 31) rfl))) (Or.inl (hw _ (List.mem_of_getElem? (i := 12) rfl))) (by decide) (t := (.object "java/util/Deque")) (t' := (.array .byte)) (by decide) (by decide)))).other W12 (Or.inr (slot_ne (Or.inr (hw _ (List.mem_of_getElem? (i := 31) rfl))) (Or.inl (hw _ (List.mem_of_getElem? (i := 45) rfl))) (by decide) (t := (.object "java/util/Deque")) (t' := .int) (by decide) (by decide)))).other W15 (Or.inl ne_a_d_5))
  exact g_ret X15 hx hret hlk (hb hby d_prog_15_m_19_47) (by decide) (by decide) (by rw [e15]; exact ⟨d_5, kd_5, (List.set ds_5 ((128 : Int32)).toNatClampNeg (.int x)), rfl, N15, kk15, sz_d_5, f16, f17, f18, f19, f20, Vn15, (by rw [List.length_set]; exact hdl_5), (fun j hj => (own_setne (Nat.ne_of_gt hj)).trans (hdg_5 j hj)), (own_setat (by rw [hdl_5]; decide))⟩)
def Q_putS (Z : State) (a : Addr) (b : Addr) (dq : Addr) (ka : ClassId) (z : Int32) (n : Int32) (vs : List Value) (x : Int32) (h0 : Heap) (n0 : Nat) (v : Option Value) (h : Heap) (L : List Loc) : Prop := v = none ∧ Fr n0 L ∧ Keep h0 h [a, b] ∧ Exa Z h a "com/example/glowworm/glowworm/NetlinkWriter" ∧ Fld Z h a "com/example/glowworm/glowworm/NetlinkWriter" "length" "I" (.int (n + (1 : Int32))) ∧ Fld Z h a "com/example/glowworm/glowworm/NetlinkWriter" "bytes" "[B" (.ref b) ∧ Fld Z h a "com/example/glowworm/glowworm/NetlinkWriter" "openNests" "Ljava/util/Deque;" (.ref dq) ∧ Arv Z h b ka .byte z (List.set vs (n).toNatClampNeg (.int x)) (.int (0 : Int32))
theorem ef_putS (m : MethodId) (x0 : Addr) (x1 : Int32) : entryFrame m #[(.ref x0), (.int x1)] 2 = mkF m 0 #[.val (.ref x0), .val (.int x1)] [] := by first | (simp [entryFrame, mkF, argsToLocals, Value.category]; done) | rfl
set_option maxRecDepth 65536 in
set_option maxHeartbeats 40000000 in
theorem rm_putS (l : Launch) (Z : State) (a0 : Array Value) (hw : ∀ d ∈ tables_1, d.before a0 Z = true) (a : Addr) (b : Addr) (dq : Addr) (ka : ClassId) (z : Int32) (n : Int32) (vs : List Value) (x : Int32) (h0 : Heap) (n0 : Nat) (Z0 : n0 ≤ h0.size) (F_length_a : Fld Z h0 a "com/example/glowworm/glowworm/NetlinkWriter" "length" "I" (.int n)) (F_bytes_a : Fld Z h0 a "com/example/glowworm/glowworm/NetlinkWriter" "bytes" "[B" (.ref b)) (F_openNests_a : Fld Z h0 a "com/example/glowworm/glowworm/NetlinkWriter" "openNests" "Ljava/util/Deque;" (.ref dq)) (V_b : Arv Z h0 b ka .byte z vs (.int (0 : Int32))) (E_a : Exa Z h0 a "com/example/glowworm/glowworm/NetlinkWriter") (g_a : n0 ≤ a) (g_b : n0 ≤ b) (ne_a_b : a ≠ b) (hn0 : ¬ n < (0 : Int32)) (hn1 : n < z) (hle : vs.length = z.toNatClampNeg) (hxb : x.toInt8.toInt32 = x) :
    Ct l Z (⟨"com/example/glowworm/glowworm/NetlinkWriter", "put", "(B)V"⟩ : MethodName) prog_15_method_19_code 2 none [] ({ frames := 0, cells := 0, slots := 0, locals := 0 } : Room) #[(.ref a), (.int x)] h0 (Q_putS Z a b dq ka z n vs x h0 n0) := by
  refine own_body (plainFor_of_name pn_2) (fun m => ef_putS m a x) ?_
  intro p e s m below meth c T0 hx hby hml hZ hown hnm hret hlk X0 e0
  have N0 := Fr.nil n0
  refine g_aloadN X0 hx (hb hby d_prog_15_m_19_0) rfl rfl rfl ?_
  refine g_getF X0 hx hZ hown (host := "") (Or.inl (hw _ (List.mem_of_getElem? (i := 44) rfl))) Via.refl e0 F_length_a (hb hby d_prog_15_m_19_1) rfl fun T1 X1 e1 => ?_
  refine g_aloadN X1 hx (hb hby d_prog_15_m_19_4) rfl rfl rfl ?_
  refine g_getF X1 hx hZ hown (host := "") (Or.inl (hw _ (List.mem_of_getElem? (i := 11) rfl))) Via.refl e1 F_bytes_a (hb hby d_prog_15_m_19_5) rfl fun T2 X2 e2 => ?_
  refine g_len X2 hx hZ e2 V_b (hb hby d_prog_15_m_19_8) rfl ?_
  have hc9 : ¬ n = z := (fun q => absurd hn1 (by rw [q]; exact own_irrI _))
  refine g_icmpY X2 hx (q := 30) (hb hby d_prog_15_m_19_9) (XT.ii_ne_t hc9) (by decide) (by decide) ?_
  refine g_aloadN X2 hx (hb hby d_prog_15_m_19_30) rfl rfl rfl ?_
  refine g_getF X2 hx hZ hown (host := "") (Or.inl (hw _ (List.mem_of_getElem? (i := 11) rfl))) Via.refl e2 F_bytes_a (hb hby d_prog_15_m_19_31) rfl fun T3 X3 e3 => ?_
  refine g_aloadN X3 hx (hb hby d_prog_15_m_19_34) rfl rfl rfl ?_
  refine g_dup X3 hx (hb hby d_prog_15_m_19_35) rfl rfl ?_
  refine g_getF X3 hx hZ hown (host := "") (Or.inl (hw _ (List.mem_of_getElem? (i := 44) rfl))) Via.refl e3 F_length_a (hb hby d_prog_15_m_19_36) rfl fun T4 X4 e4 => ?_
  refine g_dup_x1 X4 hx (hb hby d_prog_15_m_19_39) rfl rfl rfl ?_
  refine g_iconst X4 hx (r := (1 : Int32)) (hb hby d_prog_15_m_19_40) rfl rfl ?_
  refine g_iadd X4 hx (hb hby d_prog_15_m_19_41) rfl rfl ?_
  refine g_putF X4 hx hZ hown (host := "") (Or.inl (hw _ (List.mem_of_getElem? (i := 44) rfl))) Via.refl e4 F_length_a E_a (Or.inl (hw _ (List.mem_of_getElem? (i := 45) rfl))) (hw _ (List.mem_of_getElem? (i := 3) rfl)) (ty := .int) (by decide) rfl rfl (hb hby d_prog_15_m_19_42) rfl fun T5 h5 X5 e5 W5 F5 => ?_
  have kk5 : Keep h0 h5 [a, b] := (Keep.refl h0 [a, b]).wr W5 (Or.inl (by simp))
  have N5 := Fr.snoc X5 N0 g_a
  have Z5 : n0 ≤ h5.size := by rw [W5.size]; exact Z0
  refine g_iloadN X5 hx (hb hby d_prog_15_m_19_45) rfl rfl ?_
  have f6 : Arv Z h5 b ka .byte z vs (.int (0 : Int32)) := (V_b.other W5 (Ne.symm ne_a_b))
  refine g_bastore X5 hx hZ e5 f6 ⟨hn0, hn1⟩ (by rw [hle]; exact own_nat hn0 hn1) (hb hby d_prog_15_m_19_46) rfl fun T7 h7 X7 e7 W7 V7 => ?_
  rw [own_nar, hxb] at V7
  have Vn7 : Arv Z h7 b ka .byte z (List.set vs (n).toNatClampNeg (.int x)) (.int (0 : Int32)) := V7
  have kk7 : Keep h0 h7 [a, b] := kk5.wr W7 (Or.inl (by simp))
  have N7 := Fr.snoc X7 N5 g_b
  have Z7 : n0 ≤ h7.size := by rw [W7.size]; exact Z5
  have f8 : Exa Z h7 a "com/example/glowworm/glowworm/NetlinkWriter" := ((E_a.wr W5).wr W7)
  have f9 : Fld Z h7 a "com/example/glowworm/glowworm/NetlinkWriter" "length" "I" (.int (n + (1 : Int32))) := (F5.other W7 (Or.inl ne_a_b))
  have f10 : Fld Z h7 a "com/example/glowworm/glowworm/NetlinkWriter" "bytes" "[B" (.ref b) := ((F_bytes_a.other W5 (Or.inr (slot_ne (Or.inl (hw _ (List.mem_of_getElem? (i := 12) rfl))) (Or.inl (hw _ (List.mem_of_getElem? (i := 45) rfl))) (by decide) (t := (.array .byte)) (t' := .int) (by decide) (by decide)))).other W7 (Or.inl ne_a_b))
  have f11 : Fld Z h7 a "com/example/glowworm/glowworm/NetlinkWriter" "openNests" "Ljava/util/Deque;" (.ref dq) := ((F_openNests_a.other W5 (Or.inr (slot_ne (Or.inr (hw _ (List.mem_of_getElem? (i := 31) rfl))) (Or.inl (hw _ (List.mem_of_getElem? (i := 45) rfl))) (by decide) (t := (.object "java/util/Deque")) (t' := .int) (by decide) (by decide)))).other W7 (Or.inl ne_a_b))
  exact g_ret X7 hx hret hlk (hb hby d_prog_15_m_19_47) (by decide) (by decide) (by rw [e7]; exact ⟨rfl, N7, kk7, f8, f9, f10, f11, Vn7⟩)
def Q_raw (Z : State) (a : Addr) (x : Addr) (kx : ClassId) (ps : List Value) (ml : Int32) (bz : Addr) (kz : ClassId) (dq : Addr) (zz : Int32) (nn : Int32) (vz : List Value) (G : Nat → Int32) (h0 : Heap) (n0 : Nat) (v : Option Value) (h : Heap) (L : List Loc) : Prop := ∃ (b2 : Addr) (k2 : ClassId) (z2 : Int32) (v2 : List Value), v = some (.ref a) ∧ Fr n0 L ∧ Keep h0 h [a, bz] ∧ (b2 = bz ∨ h0.size ≤ b2) ∧ Exa Z h a "com/example/glowworm/glowworm/NetlinkWriter" ∧ Exa Z h b2 "[B" ∧ Fld Z h a "com/example/glowworm/glowworm/NetlinkWriter" "length" "I" (.int (nn + ml)) ∧ Fld Z h a "com/example/glowworm/glowworm/NetlinkWriter" "bytes" "[B" (.ref b2) ∧ Fld Z h a "com/example/glowworm/glowworm/NetlinkWriter" "openNests" "Ljava/util/Deque;" (.ref dq) ∧ Arv Z h b2 k2 .byte z2 v2 (.int (0 : Int32)) ∧ a ≠ b2 ∧ (∃ cc sl, own_RM z2 (nn + ml) v2 cc sl) ∧ (∀ j, j < (nn + ml).toNatClampNeg → v2.getD j (.int (0 : Int32)) = .int (G j))
theorem ef_raw (m : MethodId) (x0 : Addr) (x1 : Addr) : entryFrame m #[(.ref x0), (.ref x1)] 6 = mkF m 0 #[.val (.ref x0), .val (.ref x1), .unset, .unset, .unset, .unset] [] := by first | (simp [entryFrame, mkF, argsToLocals, Value.category]; done) | rfl
set_option maxRecDepth 65536 in
set_option maxHeartbeats 40000000 in
theorem rm_raw (l : Launch) (Z : State) (a0 : Array Value) (hw : ∀ d ∈ tables_1, d.before a0 Z = true) (a : Addr) (x : Addr) (kx : ClassId) (ps : List Value) (ml : Int32) (bz : Addr) (kz : ClassId) (dq : Addr) (zz : Int32) (nn : Int32) (vz : List Value) (G : Nat → Int32) (h0 : Heap) (n0 : Nat) (Z0 : n0 ≤ h0.size) (F_length_a : Fld Z h0 a "com/example/glowworm/glowworm/NetlinkWriter" "length" "I" (.int nn)) (F_bytes_a : Fld Z h0 a "com/example/glowworm/glowworm/NetlinkWriter" "bytes" "[B" (.ref bz)) (F_openNests_a : Fld Z h0 a "com/example/glowworm/glowworm/NetlinkWriter" "openNests" "Ljava/util/Deque;" (.ref dq)) (V_bz : Arv Z h0 bz kz .byte zz vz (.int (0 : Int32))) (V_x : Arv Z h0 x kx .byte ml ps (.int (0 : Int32))) (E_a : Exa Z h0 a "com/example/glowworm/glowworm/NetlinkWriter") (E_bz : Exa Z h0 bz "[B") (g_a : n0 ≤ a) (g_bz : n0 ≤ bz) (ne_a_bz : a ≠ bz) (ne_x_a : x ≠ a) (ne_x_bz : x ≠ bz) (hGb : ∀ j, (G j).toInt8.toInt32 = G j) (hnn0 : ¬ nn < (0 : Int32)) (hml0 : ¬ ml < (0 : Int32)) (hmax : nn.toInt + ml.toInt ≤ 142) (hrm : own_RM zz nn vz 0 0) (hC0 : ∀ j, j < nn.toNatClampNeg → vz.getD j (.int (0 : Int32)) = .int (G j)) (hP : ∀ j, j < ml.toNatClampNeg → ps.getD j (.int (0 : Int32)) = .int (G (nn.toNatClampNeg + j))) :
    Ct l Z (⟨"com/example/glowworm/glowworm/NetlinkWriter", "raw", "([B)Lcom/example/glowworm/glowworm/NetlinkWriter;"⟩ : MethodName) prog_15_method_4_code 6 (some (.object "com/example/glowworm/glowworm/NetlinkWriter")) [] ({ frames := 3, cells := 2, slots := 384, locals := 46 } : Room) #[(.ref a), (.ref x)] h0 (Q_raw Z a x kx ps ml bz kz dq zz nn vz G h0 n0) := by
  refine own_body (plainFor_of_name pn_2) (fun m => ef_raw m a x) ?_
  intro p e s m below meth c T0 hx hby hml hZ hown hnm hret hlk X0 e0
  have N0 := Fr.nil n0
  refine g_aloadN X0 hx (hb hby d_prog_15_m_4_0) rfl rfl rfl ?_
  refine g_astoreN X0 hx (Ls' := #[.val (.ref a), .val (.ref x), .val (.ref x), .unset, .unset, .unset]) (hb hby d_prog_15_m_4_1) rfl rfl rfl ?_
  refine g_aloadN X0 hx (hb hby d_prog_15_m_4_2) rfl rfl rfl ?_
  refine g_len X0 hx hZ e0 V_x (hb hby d_prog_15_m_4_3) rfl ?_
  refine g_istoreN X0 hx (Ls' := #[.val (.ref a), .val (.ref x), .val (.ref x), .val (.int ml), .unset, .unset]) (hb hby d_prog_15_m_4_4) rfl rfl ?_
  refine g_iconst X0 hx (r := (0 : Int32)) (hb hby d_prog_15_m_4_5) rfl rfl ?_
  refine g_istore X0 hx (Ls' := #[.val (.ref a), .val (.ref x), .val (.ref x), .val (.int ml), .val (.int (0 : Int32)), .unset]) (hb hby d_prog_15_m_4_6) rfl rfl ?_
  have loop : ∀ (k : Nat) (i : Int32) (s5 : Slot) (n z : Int32) (b : Addr) (ka : ClassId) (vs : List Value) (TT : State) (hh : Heap) (LL : List Loc) (cc sl : Nat), One s5 → Stand p l e ({ frames := 3, cells := 2, slots := 384, locals := 46 } : Room) s m #[(.ref a), (.ref x)] below meth c TT LL cc sl → TT.heap = hh → Keep h0 hh [a, bz] → Fr n0 LL → n0 ≤ hh.size → Fld Z hh a "com/example/glowworm/glowworm/NetlinkWriter" "length" "I" (.int n) → Fld Z hh a "com/example/glowworm/glowworm/NetlinkWriter" "bytes" "[B" (.ref b) → Fld Z hh a "com/example/glowworm/glowworm/NetlinkWriter" "openNests" "Ljava/util/Deque;" (.ref dq) → Exa Z hh a "com/example/glowworm/glowworm/NetlinkWriter" → Exa Z hh b "[B" → Arv Z hh b ka .byte z vs (.int (0 : Int32)) → Arv Z hh x kx .byte ml ps (.int (0 : Int32)) → a ≠ b → x ≠ b → n0 ≤ b → (b = bz ∨ h0.size ≤ b) → ¬ i < (0 : Int32) → i.toInt + (k : Int) = ml.toInt → ¬ n < (0 : Int32) → n.toInt = nn.toInt + i.toInt → own_RM z n vs cc sl → (∀ j, j < n.toNatClampNeg → vs.getD j (.int (0 : Int32)) = .int (G j)) → Ga p e below s (Q_raw Z a x kx ps ml bz kz dq zz nn vz G h0 n0) ({ frames := 3, cells := 2, slots := 384, locals := 46 } : Room).cells ({ frames := 3, cells := 2, slots := 384, locals := 46 } : Room).slots TT m 8 #[.val (.ref a), .val (.ref x), .val (.ref x), .val (.int ml), .val (.int i), s5] [] := by
    intro k
    induction k with
    | zero =>
      intro i s5 n z b ka vs TT hh LL cc sl o5 XX ee KK NN Zz Fl Fb Fo Ea Eb Vb Vx nab nxb gb hbz hi hk hn0 hnn hRM hC
      refine g_iload XX hx (hb hby d_prog_15_m_4_8) rfl rfl ?_
      refine g_iloadN XX hx (hb hby d_prog_15_m_4_10) rfl rfl ?_
      have hc11 : ¬ i < ml := own_ltzero hi hk
      refine g_icmpY XX hx (q := 32) (hb hby d_prog_15_m_4_11) (XT.ii_ge_t hc11) (by decide) (by decide) ?_
      refine g_aloadN XX hx (hb hby d_prog_15_m_4_32) rfl rfl rfl ?_
      have hend := own_end hnn hk hnn0 hmax hml0
      subst hend
      exact g_retR XX hx hret hlk rfl rfl rfl (hb hby d_prog_15_m_4_33) (own_RMc hRM).1 (own_RMc hRM).2 (by rw [ee]; exact ⟨b, ka, z, vs, rfl, NN, KK, hbz, Ea, Eb, Fl, Fb, Fo, Vb, nab, ⟨cc, sl, hRM⟩, hC⟩)
    | succ k ih =>
      intro i s5 n z b ka vs TT hh LL cc sl o5 XX ee KK NN Zz Fl Fb Fo Ea Eb Vb Vx nab nxb gb hbz hi hk hn0 hnn hRM hC
      refine g_iload XX hx (hb hby d_prog_15_m_4_8) rfl rfl ?_
      refine g_iloadN XX hx (hb hby d_prog_15_m_4_10) rfl rfl ?_
      have hc11 : i < ml := own_ltsucc hi hk
      refine g_icmpN XX hx (hb hby d_prog_15_m_4_11) rfl (XT.ii_ge_f hc11) ?_
      refine g_aloadN XX hx (hb hby d_prog_15_m_4_14) rfl rfl rfl ?_
      refine g_iload XX hx (hb hby d_prog_15_m_4_15) rfl rfl ?_
      refine g_baload XX hx hZ ee Vx (v := (.int (G n.toNatClampNeg))) ⟨hi, hc11⟩ (own_pv hP hi hc11 hnn0 hnn) (hb hby d_prog_15_m_4_17) rfl ?_
      refine g_istore XX hx (Ls' := #[.val (.ref a), .val (.ref x), .val (.ref x), .val (.int ml), .val (.int i), .val (.int (G n.toNatClampNeg))]) (hb hby d_prog_15_m_4_18) rfl (XS.store1 (o := s5) rfl o5 rfl) ?_
      refine g_aloadN XX hx (hb hby d_prog_15_m_4_20) rfl rfl rfl ?_
      refine g_iload XX hx (hb hby d_prog_15_m_4_21) rfl rfl ?_
      have hx1 := own_nn1 hn0 hnn hi hk hmax
      rcases own_put3 hRM with hlt | ⟨hz, hn⟩ | ⟨hz, hn⟩
      · skip
        refine g_private XX hx hZ hown (hw _ (List.mem_of_getElem? (i := 40) rfl)) (hw _ (List.mem_of_getElem? (i := 41) rfl)) (hw _ (List.mem_of_getElem? (i := 3) rfl)) (hw _ (List.mem_of_getElem? (i := 42) rfl)) (hw _ (List.mem_of_getElem? (i := 4) rfl)) (hw _ (List.mem_of_getElem? (i := 43) rfl)) (by decide) (a := a) Ea (rm_putS l Z a0 hw a b dq ka z n vs (G n.toNatClampNeg) hh n0 Zz Fl Fb Fo Vb Ea g_a gb nab hn0 hlt hRM.1 (hGb _)) (by rw [hml]; rfl) ee [(.int (G n.toNatClampNeg))] rfl rfl (W := 0) (Nat.le_of_eq rfl) (by decide) (by decide) (own_RMc hRM).1 (own_RMc hRM).2 (lenOf pd_1 rfl) (hb hby d_prog_15_m_4_23) rfl fun v1 T1 L1 X1 hQ1 => ?_
        obtain ⟨rfl, Nq1, kc1, p1_0, p1_1, p1_2, p1_3, p1_4⟩ := hQ1
        have N1 := Fr.app NN Nq1
        have kk1 : Keep h0 T1.heap [a, bz] := KK.trans kc1 (allS (Or.inl (by simp)) (allS (own_memb hbz) all0))
        have Z1 : n0 ≤ T1.heap.size := Nat.le_trans Zz kc1.1
        show Ga _ _ _ _ _ _ _ _ _ _ _ []
        refine g_iinc X1 hx (r := (i + (1 : Int32))) (Ls' := #[.val (.ref a), .val (.ref x), .val (.ref x), .val (.int ml), .val (.int (i + (1 : Int32))), .val (.int (G n.toNatClampNeg))]) (hb hby d_prog_15_m_4_26) rfl rfl rfl rfl ?_
        refine g_goto X1 hx (q := 8) (hb hby d_prog_15_m_4_29) (by decide) (by decide) ?_
        have f2 : Exa Z T1.heap b "[B" := (Eb.keep kc1)
        have f3 : Arv Z T1.heap x kx .byte ml ps (.int (0 : Int32)) := (Vx.keep kc1 (ninS ne_x_a (ninS nxb nin0)))
        exact ih _ _ _ _ _ _ _ _ _ _ _ _ (One.val rfl) X1 rfl kk1 N1 Z1 p1_1 p1_2 p1_3 p1_0 f2 p1_4 f3 nab nxb gb hbz (own_nat1 hi hk).1 (own_nat1 hi hk).2.1 (own_n1 hn0 hx1.1).2.1 hx1.2 (own_RMs hRM hn0 hlt hx1.1) (own_Cs hC hRM.1 hn0 hlt hx1.1)
      · skip
        subst hz hn
        refine g_private XX hx hZ hown (hw _ (List.mem_of_getElem? (i := 40) rfl)) (hw _ (List.mem_of_getElem? (i := 41) rfl)) (hw _ (List.mem_of_getElem? (i := 3) rfl)) (hw _ (List.mem_of_getElem? (i := 42) rfl)) (hw _ (List.mem_of_getElem? (i := 4) rfl)) (hw _ (List.mem_of_getElem? (i := 43) rfl)) (by decide) (a := a) Ea (rm_putG64 l Z a0 hw a b dq ka vs (G (64 : Int32).toNatClampNeg) hh n0 Zz Fl Fb Fo Vb Ea g_a gb nab (hGb _)) (by rw [hml]; rfl) ee [(.int (G (64 : Int32).toNatClampNeg))] rfl rfl (W := 0) (Nat.le_of_eq rfl) (by decide) (by decide) (own_RMc1 hRM).1 (own_RMc1 hRM).2 (lenOf pd_1 rfl) (hb hby d_prog_15_m_4_23) rfl fun v4 T4 L4 X4 hQ4 => ?_
        obtain ⟨d_4, kd_4, dt_4, rfl, Nq4, kc4, p4_0, p4_1, p4_2, p4_3, p4_4, p4_5, p4_6, p4_7, p4_8, p4_9⟩ := hQ4
        have N4 := Fr.app NN Nq4
        have ne_a_d_4 : a ≠ d_4 := own_neK Fl.lt p4_0
        have ne_b_d_4 : b ≠ d_4 := own_neK Eb.lt p4_0
        have ne_x_d_4 : x ≠ d_4 := own_neK Vx.lt p4_0
        have g_d_4 : n0 ≤ d_4 := Nat.le_trans Zz p4_0
        have sz_d_4 : h0.size ≤ d_4 := Nat.le_trans KK.1 p4_0
        have kk4 : Keep h0 T4.heap [a, bz] := KK.trans kc4 (allS (Or.inl (by simp)) all0)
        have Z4 : n0 ≤ T4.heap.size := Nat.le_trans Zz kc4.1
        have hdl_4 := p4_7
        have hdg_4 := p4_8
        have hdx_4 := p4_9
        show Ga _ _ _ _ _ _ _ _ _ _ _ []
        refine g_iinc X4 hx (r := (i + (1 : Int32))) (Ls' := #[.val (.ref a), .val (.ref x), .val (.ref x), .val (.int ml), .val (.int (i + (1 : Int32))), .val (.int (G (64 : Int32).toNatClampNeg))]) (hb hby d_prog_15_m_4_26) rfl rfl rfl rfl ?_
        refine g_goto X4 hx (q := 8) (hb hby d_prog_15_m_4_29) (by decide) (by decide) ?_
        have f5 : Arv Z T4.heap x kx .byte ml ps (.int (0 : Int32)) := (Vx.keep kc4 (ninS ne_x_a nin0))
        exact ih _ _ _ _ _ _ _ _ _ _ _ _ (One.val rfl) X4 rfl kk4 N4 Z4 p4_3 p4_4 p4_5 p4_1 p4_2 p4_6 f5 ne_a_d_4 ne_x_d_4 g_d_4 (Or.inr sz_d_4) (own_nat1 hi hk).1 (own_nat1 hi hk).2.1 (by decide) hx1.2 (own_RMg1 hRM hdl_4) (own_Cg (N := 64) hC hdg_4 hdx_4)
      · skip
        subst hz hn
        refine g_private XX hx hZ hown (hw _ (List.mem_of_getElem? (i := 40) rfl)) (hw _ (List.mem_of_getElem? (i := 41) rfl)) (hw _ (List.mem_of_getElem? (i := 3) rfl)) (hw _ (List.mem_of_getElem? (i := 42) rfl)) (hw _ (List.mem_of_getElem? (i := 4) rfl)) (hw _ (List.mem_of_getElem? (i := 43) rfl)) (by decide) (a := a) Ea (rm_putG128 l Z a0 hw a b dq ka vs (G (128 : Int32).toNatClampNeg) hh n0 Zz Fl Fb Fo Vb Ea g_a gb nab (hGb _)) (by rw [hml]; rfl) ee [(.int (G (128 : Int32).toNatClampNeg))] rfl rfl (W := 0) (Nat.le_of_eq rfl) (by decide) (by decide) (own_RMc2 hRM).1 (own_RMc2 hRM).2 (lenOf pd_1 rfl) (hb hby d_prog_15_m_4_23) rfl fun v6 T6 L6 X6 hQ6 => ?_
        obtain ⟨d_6, kd_6, dt_6, rfl, Nq6, kc6, p6_0, p6_1, p6_2, p6_3, p6_4, p6_5, p6_6, p6_7, p6_8, p6_9⟩ := hQ6
        have N6 := Fr.app NN Nq6
        have ne_a_d_6 : a ≠ d_6 := own_neK Fl.lt p6_0
        have ne_b_d_6 : b ≠ d_6 := own_neK Eb.lt p6_0
        have ne_x_d_6 : x ≠ d_6 := own_neK Vx.lt p6_0
        have g_d_6 : n0 ≤ d_6 := Nat.le_trans Zz p6_0
        have sz_d_6 : h0.size ≤ d_6 := Nat.le_trans KK.1 p6_0
        have kk6 : Keep h0 T6.heap [a, bz] := KK.trans kc6 (allS (Or.inl (by simp)) all0)
        have Z6 : n0 ≤ T6.heap.size := Nat.le_trans Zz kc6.1
        have hdl_6 := p6_7
        have hdg_6 := p6_8
        have hdx_6 := p6_9
        show Ga _ _ _ _ _ _ _ _ _ _ _ []
        refine g_iinc X6 hx (r := (i + (1 : Int32))) (Ls' := #[.val (.ref a), .val (.ref x), .val (.ref x), .val (.int ml), .val (.int (i + (1 : Int32))), .val (.int (G (128 : Int32).toNatClampNeg))]) (hb hby d_prog_15_m_4_26) rfl rfl rfl rfl ?_
        refine g_goto X6 hx (q := 8) (hb hby d_prog_15_m_4_29) (by decide) (by decide) ?_
        have f7 : Arv Z T6.heap x kx .byte ml ps (.int (0 : Int32)) := (Vx.keep kc6 (ninS ne_x_a nin0))
        exact ih _ _ _ _ _ _ _ _ _ _ _ _ (One.val rfl) X6 rfl kk6 N6 Z6 p6_3 p6_4 p6_5 p6_1 p6_2 p6_6 f7 ne_a_d_6 ne_x_d_6 g_d_6 (Or.inr sz_d_6) (own_nat1 hi hk).1 (own_nat1 hi hk).2.1 (by decide) hx1.2 (own_RMg2 hRM hdl_6) (own_Cg (N := 128) hC hdg_6 hdx_6)
  exact loop ml.toNatClampNeg _ _ _ _ _ _ _ _ _ _ _ _ One.u X0 e0 (Keep.refl h0 [a, bz]) N0 Z0 F_length_a F_bytes_a F_openNests_a E_a E_bz V_bz V_x ne_a_bz ne_x_bz g_bz (Or.inl rfl) (by decide) (by have q := nat_of hml0; rw [own_i0]; omega) hnn0 (by rw [own_i0]; omega) hrm hC0
def Q_su0 (Z : State) (a : Addr) (b : Addr) (ka : ClassId) (vs : List Value) (x : Int32) (z : Int32) (h0 : Heap) (n0 : Nat) (v : Option Value) (h : Heap) (L : List Loc) : Prop := v = none ∧ Fr n0 L ∧ Keep h0 h [b] ∧ Arv Z h b ka .byte z (List.set (List.set vs ((0 : Int32)).toNatClampNeg (.int (x.toInt8.toInt32))) ((1 : Int32)).toNatClampNeg (.int (((x.toUInt32 >>> ((8 : Int32) &&& 31).toUInt32).toInt32).toInt8.toInt32))) (.int (0 : Int32))
theorem ef_su0 (m : MethodId) (x0 : Addr) (x1 : Int32) (x2 : Int32) : entryFrame m #[(.ref x0), (.int x1), (.int x2)] 3 = mkF m 0 #[.val (.ref x0), .val (.int x1), .val (.int x2)] [] := by first | (simp [entryFrame, mkF, argsToLocals, Value.category]; done) | rfl
set_option maxRecDepth 65536 in
set_option maxHeartbeats 40000000 in
theorem rm_su0 (l : Launch) (Z : State) (a0 : Array Value) (hw : ∀ d ∈ tables_1, d.before a0 Z = true) (a : Addr) (b : Addr) (ka : ClassId) (vs : List Value) (x : Int32) (z : Int32) (h0 : Heap) (n0 : Nat) (Z0 : n0 ≤ h0.size) (F_bytes_a : Fld Z h0 a "com/example/glowworm/glowworm/NetlinkWriter" "bytes" "[B" (.ref b)) (V_b : Arv Z h0 b ka .byte z vs (.int (0 : Int32))) (g_b : n0 ≤ b) (ne_a_b : a ≠ b) (hz : 64 ≤ z.toInt) (hle : vs.length = z.toNatClampNeg) :
    Ct l Z (⟨"com/example/glowworm/glowworm/NetlinkWriter", "setU16", "(II)V"⟩ : MethodName) prog_15_method_18_code 3 none [] ({ frames := 0, cells := 0, slots := 0, locals := 0 } : Room) #[(.ref a), (.int (0 : Int32)), (.int x)] h0 (Q_su0 Z a b ka vs x z h0 n0) := by
  refine own_body (plainFor_of_name pn_2) (fun m => ef_su0 m a (0 : Int32) x) ?_
  intro p e s m below meth c T0 hx hby hml hZ hown hnm hret hlk X0 e0
  have N0 := Fr.nil n0
  refine g_aloadN X0 hx (hb hby d_prog_15_m_18_0) rfl rfl rfl ?_
  refine g_getF X0 hx hZ hown (host := "") (Or.inl (hw _ (List.mem_of_getElem? (i := 11) rfl))) Via.refl e0 F_bytes_a (hb hby d_prog_15_m_18_1) rfl fun T1 X1 e1 => ?_
  refine g_iloadN X1 hx (hb hby d_prog_15_m_18_4) rfl rfl ?_
  refine g_iloadN X1 hx (hb hby d_prog_15_m_18_5) rfl rfl ?_
  refine g_i2b X1 hx (hb hby d_prog_15_m_18_6) rfl rfl ?_
  refine g_bastore X1 hx hZ e1 V_b ⟨by decide, own_zlt hz (by decide)⟩ (by rw [hle]; exact own_nat (by decide) (own_zlt hz (by decide))) (hb hby d_prog_15_m_18_7) rfl fun T2 h2 X2 e2 W2 V2 => ?_
  rw [own_nar, own_bb] at V2
  have Vn2 : Arv Z h2 b ka .byte z (List.set vs ((0 : Int32)).toNatClampNeg (.int (x.toInt8.toInt32))) (.int (0 : Int32)) := V2
  have kk2 : Keep h0 h2 [b] := (Keep.refl h0 [b]).wr W2 (Or.inl (by simp))
  have N2 := Fr.snoc X2 N0 g_b
  have Z2 : n0 ≤ h2.size := by rw [W2.size]; exact Z0
  refine g_aloadN X2 hx (hb hby d_prog_15_m_18_8) rfl rfl rfl ?_
  have f4 : Fld Z h2 a "com/example/glowworm/glowworm/NetlinkWriter" "bytes" "[B" (.ref b) := (F_bytes_a.other W2 (Or.inl ne_a_b))
  refine g_getF X2 hx hZ hown (host := "") (Or.inl (hw _ (List.mem_of_getElem? (i := 11) rfl))) Via.refl e2 f4 (hb hby d_prog_15_m_18_9) rfl fun T3 X3 e3 => ?_
  refine g_iloadN X3 hx (hb hby d_prog_15_m_18_12) rfl rfl ?_
  refine g_iconst X3 hx (r := (1 : Int32)) (hb hby d_prog_15_m_18_13) rfl rfl ?_
  refine g_iadd X3 hx (r := (1 : Int32)) (hb hby d_prog_15_m_18_14) rfl rfl ?_
  refine g_iloadN X3 hx (hb hby d_prog_15_m_18_15) rfl rfl ?_
  refine g_bipush X3 hx (r := (8 : Int32)) (hb hby d_prog_15_m_18_16) rfl rfl ?_
  refine g_iushr X3 hx (hb hby d_prog_15_m_18_18) rfl rfl ?_
  refine g_i2b X3 hx (hb hby d_prog_15_m_18_19) rfl rfl ?_
  refine g_bastore X3 hx hZ e3 Vn2 ⟨by decide, own_zlt hz (by decide)⟩ (by rw [List.length_set, hle]; exact own_nat (by decide) (own_zlt hz (by decide))) (hb hby d_prog_15_m_18_20) rfl fun T5 h5 X5 e5 W5 V5 => ?_
  rw [own_nar, own_bb] at V5
  have Vn5 : Arv Z h5 b ka .byte z (List.set (List.set vs ((0 : Int32)).toNatClampNeg (.int (x.toInt8.toInt32))) ((1 : Int32)).toNatClampNeg (.int (((x.toUInt32 >>> ((8 : Int32) &&& 31).toUInt32).toInt32).toInt8.toInt32))) (.int (0 : Int32)) := V5
  have kk5 : Keep h0 h5 [b] := kk2.wr W5 (Or.inl (by simp))
  have N5 := Fr.snoc X5 N2 g_b
  have Z5 : n0 ≤ h5.size := by rw [W5.size]; exact Z2
  exact g_ret X5 hx hret hlk (hb hby d_prog_15_m_18_21) (by decide) (by decide) (by rw [e5]; exact ⟨rfl, N5, kk5, Vn5⟩)
def Q_su2 (Z : State) (a : Addr) (b : Addr) (ka : ClassId) (vs : List Value) (x : Int32) (z : Int32) (h0 : Heap) (n0 : Nat) (v : Option Value) (h : Heap) (L : List Loc) : Prop := v = none ∧ Fr n0 L ∧ Keep h0 h [b] ∧ Arv Z h b ka .byte z (List.set (List.set vs ((2 : Int32)).toNatClampNeg (.int (x.toInt8.toInt32))) ((3 : Int32)).toNatClampNeg (.int (((x.toUInt32 >>> ((8 : Int32) &&& 31).toUInt32).toInt32).toInt8.toInt32))) (.int (0 : Int32))
theorem ef_su2 (m : MethodId) (x0 : Addr) (x1 : Int32) (x2 : Int32) : entryFrame m #[(.ref x0), (.int x1), (.int x2)] 3 = mkF m 0 #[.val (.ref x0), .val (.int x1), .val (.int x2)] [] := by first | (simp [entryFrame, mkF, argsToLocals, Value.category]; done) | rfl
set_option maxRecDepth 65536 in
set_option maxHeartbeats 40000000 in
theorem rm_su2 (l : Launch) (Z : State) (a0 : Array Value) (hw : ∀ d ∈ tables_1, d.before a0 Z = true) (a : Addr) (b : Addr) (ka : ClassId) (vs : List Value) (x : Int32) (z : Int32) (h0 : Heap) (n0 : Nat) (Z0 : n0 ≤ h0.size) (F_bytes_a : Fld Z h0 a "com/example/glowworm/glowworm/NetlinkWriter" "bytes" "[B" (.ref b)) (V_b : Arv Z h0 b ka .byte z vs (.int (0 : Int32))) (g_b : n0 ≤ b) (ne_a_b : a ≠ b) (hz : 64 ≤ z.toInt) (hle : vs.length = z.toNatClampNeg) :
    Ct l Z (⟨"com/example/glowworm/glowworm/NetlinkWriter", "setU16", "(II)V"⟩ : MethodName) prog_15_method_18_code 3 none [] ({ frames := 0, cells := 0, slots := 0, locals := 0 } : Room) #[(.ref a), (.int (2 : Int32)), (.int x)] h0 (Q_su2 Z a b ka vs x z h0 n0) := by
  refine own_body (plainFor_of_name pn_2) (fun m => ef_su2 m a (2 : Int32) x) ?_
  intro p e s m below meth c T0 hx hby hml hZ hown hnm hret hlk X0 e0
  have N0 := Fr.nil n0
  refine g_aloadN X0 hx (hb hby d_prog_15_m_18_0) rfl rfl rfl ?_
  refine g_getF X0 hx hZ hown (host := "") (Or.inl (hw _ (List.mem_of_getElem? (i := 11) rfl))) Via.refl e0 F_bytes_a (hb hby d_prog_15_m_18_1) rfl fun T1 X1 e1 => ?_
  refine g_iloadN X1 hx (hb hby d_prog_15_m_18_4) rfl rfl ?_
  refine g_iloadN X1 hx (hb hby d_prog_15_m_18_5) rfl rfl ?_
  refine g_i2b X1 hx (hb hby d_prog_15_m_18_6) rfl rfl ?_
  refine g_bastore X1 hx hZ e1 V_b ⟨by decide, own_zlt hz (by decide)⟩ (by rw [hle]; exact own_nat (by decide) (own_zlt hz (by decide))) (hb hby d_prog_15_m_18_7) rfl fun T2 h2 X2 e2 W2 V2 => ?_
  rw [own_nar, own_bb] at V2
  have Vn2 : Arv Z h2 b ka .byte z (List.set vs ((2 : Int32)).toNatClampNeg (.int (x.toInt8.toInt32))) (.int (0 : Int32)) := V2
  have kk2 : Keep h0 h2 [b] := (Keep.refl h0 [b]).wr W2 (Or.inl (by simp))
  have N2 := Fr.snoc X2 N0 g_b
  have Z2 : n0 ≤ h2.size := by rw [W2.size]; exact Z0
  refine g_aloadN X2 hx (hb hby d_prog_15_m_18_8) rfl rfl rfl ?_
  have f4 : Fld Z h2 a "com/example/glowworm/glowworm/NetlinkWriter" "bytes" "[B" (.ref b) := (F_bytes_a.other W2 (Or.inl ne_a_b))
  refine g_getF X2 hx hZ hown (host := "") (Or.inl (hw _ (List.mem_of_getElem? (i := 11) rfl))) Via.refl e2 f4 (hb hby d_prog_15_m_18_9) rfl fun T3 X3 e3 => ?_
  refine g_iloadN X3 hx (hb hby d_prog_15_m_18_12) rfl rfl ?_
  refine g_iconst X3 hx (r := (1 : Int32)) (hb hby d_prog_15_m_18_13) rfl rfl ?_
  refine g_iadd X3 hx (r := (3 : Int32)) (hb hby d_prog_15_m_18_14) rfl rfl ?_
  refine g_iloadN X3 hx (hb hby d_prog_15_m_18_15) rfl rfl ?_
  refine g_bipush X3 hx (r := (8 : Int32)) (hb hby d_prog_15_m_18_16) rfl rfl ?_
  refine g_iushr X3 hx (hb hby d_prog_15_m_18_18) rfl rfl ?_
  refine g_i2b X3 hx (hb hby d_prog_15_m_18_19) rfl rfl ?_
  refine g_bastore X3 hx hZ e3 Vn2 ⟨by decide, own_zlt hz (by decide)⟩ (by rw [List.length_set, hle]; exact own_nat (by decide) (own_zlt hz (by decide))) (hb hby d_prog_15_m_18_20) rfl fun T5 h5 X5 e5 W5 V5 => ?_
  rw [own_nar, own_bb] at V5
  have Vn5 : Arv Z h5 b ka .byte z (List.set (List.set vs ((2 : Int32)).toNatClampNeg (.int (x.toInt8.toInt32))) ((3 : Int32)).toNatClampNeg (.int (((x.toUInt32 >>> ((8 : Int32) &&& 31).toUInt32).toInt32).toInt8.toInt32))) (.int (0 : Int32)) := V5
  have kk5 : Keep h0 h5 [b] := kk2.wr W5 (Or.inl (by simp))
  have N5 := Fr.snoc X5 N2 g_b
  have Z5 : n0 ≤ h5.size := by rw [W5.size]; exact Z2
  exact g_ret X5 hx hret hlk (hb hby d_prog_15_m_18_21) (by decide) (by decide) (by rw [e5]; exact ⟨rfl, N5, kk5, Vn5⟩)
def Q_minY (Z : State) (x : Int32) (y : Int32) (h0 : Heap) (n0 : Nat) (v : Option Value) (h : Heap) (L : List Loc) : Prop := v = some (.int y) ∧ Fr n0 L ∧ h = h0
theorem ef_minY (m : MethodId) (x0 : Int32) (x1 : Int32) : entryFrame m #[(.int x0), (.int x1)] 2 = mkF m 0 #[.val (.int x0), .val (.int x1)] [] := by first | (simp [entryFrame, mkF, argsToLocals, Value.category]; done) | rfl
set_option maxRecDepth 65536 in
set_option maxHeartbeats 40000000 in
theorem rm_minY (l : Launch) (Z : State) (a0 : Array Value) (hw : ∀ d ∈ tables_1, d.before a0 Z = true) (x : Int32) (y : Int32) (h0 : Heap) (n0 : Nat) (Z0 : n0 ≤ h0.size) (hxy : y < x) :
    Ct l Z (⟨"java/lang/Math", "min", "(II)I"⟩ : MethodName) jdk_29_method_69_code 2 (some .int) [] ({ frames := 0, cells := 0, slots := 0, locals := 0 } : Room) #[(.int x), (.int y)] h0 (Q_minY Z x y h0 n0) := by
  refine own_body (Jvm.Free.JP.mathPlain rfl (by decide +kernel)) (fun m => ef_minY m x y) ?_
  intro p e s m below meth c T0 hx hby hml hZ hown hnm hret hlk X0 e0
  have N0 := Fr.nil n0
  refine g_iloadN X0 hx (hb hby d_jdk_29_m_69_0) rfl rfl ?_
  refine g_iloadN X0 hx (hb hby d_jdk_29_m_69_1) rfl rfl ?_
  have hc2 : y < x := hxy
  refine g_icmpY X0 hx (q := 9) (hb hby d_jdk_29_m_69_2) (XT.ii_gt_t hc2) (by decide) (by decide) ?_
  refine g_iloadN X0 hx (hb hby d_jdk_29_m_69_9) rfl rfl ?_
  exact g_retI X0 hx hret hlk (hb hby d_jdk_29_m_69_10) (by decide) (by decide) (by rw [e0]; exact ⟨rfl, N0, rfl⟩)
def Q_cpT (Z : State) (b : Addr) (ka : ClassId) (vs : List Value) (z : Int32) (n : Int32) (h0 : Heap) (n0 : Nat) (v : Option Value) (h : Heap) (L : List Loc) : Prop := ∃ (d : Addr) (kd : ClassId) (ds : List Value), v = some (.ref d) ∧ Fr n0 L ∧ Keep h0 h [] ∧ h0.size ≤ d ∧ Arv Z h d kd .byte n ds (.int (0 : Int32)) ∧ (∀ j, j < n.toNatClampNeg → ds.getD j (.int (0 : Int32)) = vs.getD j (.int (0 : Int32)))
theorem ef_cpT (m : MethodId) (x0 : Addr) (x1 : Int32) : entryFrame m #[(.ref x0), (.int x1)] 3 = mkF m 0 #[.val (.ref x0), .val (.int x1), .unset] [] := by first | (simp [entryFrame, mkF, argsToLocals, Value.category]; done) | rfl
set_option maxRecDepth 65536 in
set_option maxHeartbeats 40000000 in
theorem rm_cpT (l : Launch) (Z : State) (a0 : Array Value) (hw : ∀ d ∈ tables_1, d.before a0 Z = true) (b : Addr) (ka : ClassId) (vs : List Value) (z : Int32) (n : Int32) (h0 : Heap) (n0 : Nat) (Z0 : n0 ≤ h0.size) (V_b : Arv Z h0 b ka .byte z vs (.int (0 : Int32))) (E_b : Exa Z h0 b "[B") (hn0 : ¬ n < (0 : Int32)) (hnz : n.toInt ≤ z.toInt) (hn142 : n.toInt ≤ 142) (hz64 : 64 ≤ z.toInt) (hz256 : z.toInt ≤ 256) :
    Ct l Z (⟨"java/util/Arrays", "copyOf", "([BI)[B"⟩ : MethodName) jdk_65_method_121_code 3 (some (.array .byte)) [] ({ frames := 1, cells := 1, slots := 256, locals := 18 } : Room) #[(.ref b), (.int n)] h0 (Q_cpT Z b ka vs z n h0 n0) := by
  refine own_body (plainFor_of_name pn_3) (fun m => ef_cpT m b n) ?_
  intro p e s m below meth c T0 hx hby hml hZ hown hnm hret hlk X0 e0
  have N0 := Fr.nil n0
  refine g_iloadN X0 hx (hb hby d_jdk_65_m_121_0) rfl rfl ?_
  refine g_aloadN X0 hx (hb hby d_jdk_65_m_121_1) rfl rfl rfl ?_
  refine g_len X0 hx hZ e0 V_b (hb hby d_jdk_65_m_121_2) rfl ?_
  by_cases hc3 : n = z
  · skip
    refine g_icmpN X0 hx (hb hby d_jdk_65_m_121_3) rfl (XT.ii_ne_f hc3) ?_
    refine g_aloadN X0 hx (hb hby d_jdk_65_m_121_6) rfl rfl rfl ?_
    refine g_clone X0 hx hZ hown (hw _ (List.mem_of_getElem? (i := 92) rfl)) (hw _ (List.mem_of_getElem? (i := 93) rfl)) (hw _ (List.mem_of_getElem? (i := 97) rfl)) (hw _ (List.mem_of_getElem? (i := 95) rfl)) (hw _ (List.mem_of_getElem? (i := 96) rfl)) (hw _ (List.mem_of_getElem? (i := 98) rfl)) e0 V_b E_b (by rw [hml]; rfl) (hb hby d_jdk_65_m_121_7) rfl (by decide) (W := 0) (Nat.le_of_eq rfl) (by decide) 256 (own_le256 hz64 hz256) (by decide) (by decide) fun T1 h1 b1 X1 e1 q1 E1 A1 V1 => ?_
    have ne_b_b1 : b ≠ b1 := own_ne V_b.lt q1
    have g_b1 : n0 ≤ b1 := Nat.le_trans Z0 (Nat.le_of_eq q1.symm)
    have sz_b1 : h0.size ≤ b1 := Nat.le_trans (Keep.refl h0 []).1 (Nat.le_of_eq q1.symm)
    have Z1 : n0 ≤ h1.size := Nat.le_trans Z0 E1.1
    have kk1 : Keep h0 h1 [] := (Keep.refl h0 []).ext E1
    refine g_cast X1 hx hZ hown (hw _ (List.mem_of_getElem? (i := 99) rfl)) e1 (Ins.self A1) (hb hby d_jdk_65_m_121_10) rfl fun T2 X2 e2 => ?_
    exact g_retR X2 hx hret hlk rfl rfl rfl (hb hby d_jdk_65_m_121_13) (by decide) (by decide) (by rw [e2]; exact ⟨b1, ka, vs, rfl, N0, kk1, sz_b1, (by rw [hc3]; exact V1), (fun _ _ => rfl)⟩)
  · skip
    refine g_icmpY X0 hx (q := 14) (hb hby d_jdk_65_m_121_3) (XT.ii_ne_t hc3) (by decide) (by decide) ?_
    refine g_iloadN X0 hx (hb hby d_jdk_65_m_121_14) rfl rfl ?_
    refine g_newarray X0 hx hZ (aty := .byte) (hw _ (List.mem_of_getElem? (i := 1) rfl)) e0 hn0 144 (own_le144 hn0 hn142) (by decide) (by decide) (by decide) (ad := "[B") (by decide) (hb hby d_jdk_65_m_121_15) rfl fun T3 h3 b3 ka3 X3 e3 q3 E3 A3 V3 => ?_
    have ne_b_b3 : b ≠ b3 := own_ne V_b.lt q3
    have g_b3 : n0 ≤ b3 := Nat.le_trans Z0 (Nat.le_of_eq q3.symm)
    have sz_b3 : h0.size ≤ b3 := Nat.le_trans (Keep.refl h0 []).1 (Nat.le_of_eq q3.symm)
    have Z3 : n0 ≤ h3.size := Nat.le_trans Z0 E3.1
    have kk3 : Keep h0 h3 [] := (Keep.refl h0 []).ext E3
    have Vn3 : Arv Z h3 b3 ka3 .byte n (List.replicate 144 (.int (0 : Int32))) (.int (0 : Int32)) := V3
    refine g_astoreN X3 hx (Ls' := #[.val (.ref b), .val (.int n), .val (.ref b3)]) (hb hby d_jdk_65_m_121_17) rfl rfl rfl ?_
    refine g_aloadN X3 hx (hb hby d_jdk_65_m_121_18) rfl rfl rfl ?_
    refine g_iconst X3 hx (r := (0 : Int32)) (hb hby d_jdk_65_m_121_19) rfl rfl ?_
    refine g_aloadN X3 hx (hb hby d_jdk_65_m_121_20) rfl rfl rfl ?_
    refine g_iconst X3 hx (r := (0 : Int32)) (hb hby d_jdk_65_m_121_21) rfl rfl ?_
    refine g_aloadN X3 hx (hb hby d_jdk_65_m_121_22) rfl rfl rfl ?_
    have f4 : Arv Z h3 b ka .byte z vs (.int (0 : Int32)) := (V_b.ext E3)
    refine g_len X3 hx hZ e3 f4 (hb hby d_jdk_65_m_121_23) rfl ?_
    refine g_iloadN X3 hx (hb hby d_jdk_65_m_121_24) rfl rfl ?_
    refine g_static X3 hx hZ hown (hw _ (List.mem_of_getElem? (i := 77) rfl)) (hw _ (List.mem_of_getElem? (i := 78) rfl)) (hw _ (List.mem_of_getElem? (i := 79) rfl)) (hw _ (List.mem_of_getElem? (i := 80) rfl)) (by decide) (rm_minY l Z a0 hw z n h3 n0 Z3 (own_ltne hnz hc3)) (by rw [hml]; rfl) e3 [(.int z), (.int n)] rfl rfl (W := 4) (Nat.le_of_eq rfl) (by decide) (by decide) (by decide) (by decide) (lenOf pd_3 rfl) (hb hby d_jdk_65_m_121_25) rfl fun v5 T5 L5 X5 hQ5 => ?_
    obtain ⟨rfl, Nq5, eh5⟩ := hQ5
    have N5 := Fr.app N0 Nq5
    show Ga _ _ _ _ _ _ _ _ _ _ _ [(.int n), (.int (0 : Int32)), (.ref b3), (.int (0 : Int32)), (.ref b)]
    refine g_acopyP X5 hx hZ hown (hw _ (List.mem_of_getElem? (i := 81) rfl)) (hw _ (List.mem_of_getElem? (i := 84) rfl)) (hw _ (List.mem_of_getElem? (i := 82) rfl)) (hw _ (List.mem_of_getElem? (i := 83) rfl)) eh5 f4 Vn3 rfl hn0 (own_lez hn0 hnz) (Nat.le_refl _) (by rw [List.length_replicate]; exact own_le144 hn0 hn142) N5 g_b3 (by rw [hml]; rfl) (hb hby d_jdk_65_m_121_28) rfl (by decide) (W := 0) (Nat.le_of_eq rfl) (by decide) fun T6 h6 L6 ds6 X6 e6 Nq6 kc6 V6 hdl6 hdg6 => ?_
    have Vn6 : Arv Z h6 b3 ka3 .byte n ds6 (.int (0 : Int32)) := V6
    have kk6 : Keep h0 h6 [] := kk3.trans kc6 (allS (Or.inr sz_b3) all0)
    have Z6 : n0 ≤ h6.size := Nat.le_trans Z3 kc6.1
    refine g_aloadN X6 hx (hb hby d_jdk_65_m_121_31) rfl rfl rfl ?_
    exact g_retR X6 hx hret hlk rfl rfl rfl (hb hby d_jdk_65_m_121_32) (by decide) (by decide) (by rw [e6]; exact ⟨b3, ka3, ds6, rfl, Nq6, kk6, sz_b3, Vn6, hdg6⟩)
def Q_tobytes (Z : State) (a : Addr) (b : Addr) (dq : Addr) (ka : ClassId) (vs : List Value) (z : Int32) (n : Int32) (G : Nat → Int32) (h0 : Heap) (n0 : Nat) (v : Option Value) (h : Heap) (L : List Loc) : Prop := ∃ (d : Addr) (kd : ClassId) (ds : List Value), v = some (.ref d) ∧ Fr n0 L ∧ Keep h0 h [b] ∧ h0.size ≤ d ∧ Arv Z h d kd .byte n ds (.int (0 : Int32)) ∧ (∀ j, j < n.toNatClampNeg → ds.getD j (.int (0 : Int32)) = .int (own_T n G j))
theorem ef_tobytes (m : MethodId) (x0 : Addr) : entryFrame m #[(.ref x0)] 1 = mkF m 0 #[.val (.ref x0)] [] := by first | (simp [entryFrame, mkF, argsToLocals, Value.category]; done) | rfl
set_option maxRecDepth 65536 in
set_option maxHeartbeats 40000000 in
theorem rm_tobytes (l : Launch) (Z : State) (a0 : Array Value) (hw : ∀ d ∈ tables_1, d.before a0 Z = true) (a : Addr) (b : Addr) (dq : Addr) (ka : ClassId) (vs : List Value) (z : Int32) (n : Int32) (G : Nat → Int32) (h0 : Heap) (n0 : Nat) (Z0 : n0 ≤ h0.size) (F_length_a : Fld Z h0 a "com/example/glowworm/glowworm/NetlinkWriter" "length" "I" (.int n)) (F_bytes_a : Fld Z h0 a "com/example/glowworm/glowworm/NetlinkWriter" "bytes" "[B" (.ref b)) (F_openNests_a : Fld Z h0 a "com/example/glowworm/glowworm/NetlinkWriter" "openNests" "Ljava/util/Deque;" (.ref dq)) (V_b : Arv Z h0 b ka .byte z vs (.int (0 : Int32))) (E_a : Exa Z h0 a "com/example/glowworm/glowworm/NetlinkWriter") (E_b : Exa Z h0 b "[B") (g_b : n0 ≤ b) (ne_a_b : a ≠ b) (E_dq : Exa Z h0 dq "java/util/ArrayDeque") (F_head_dq : Fld Z h0 dq "java/util/ArrayDeque" "head" "I" (.int (0 : Int32))) (F_tail_dq : Fld Z h0 dq "java/util/ArrayDeque" "tail" "I" (.int (0 : Int32))) (hn0 : ¬ n < (0 : Int32)) (hRM : ∃ cc sl, own_RM z n vs cc sl) (hC : ∀ j, j < n.toNatClampNeg → vs.getD j (.int (0 : Int32)) = .int (G j)) :
    Ct l Z (⟨"com/example/glowworm/glowworm/NetlinkWriter", "toBytes", "()[B"⟩ : MethodName) prog_15_method_12_code 1 (some (.array .byte)) [] ({ frames := 2, cells := 1, slots := 256, locals := 32 } : Room) #[(.ref a)] h0 (Q_tobytes Z a b dq ka vs z n G h0 n0) := by
  refine own_body (plainFor_of_name pn_2) (fun m => ef_tobytes m a) ?_
  intro p e s m below meth c T0 hx hby hml hZ hown hnm hret hlk X0 e0
  have N0 := Fr.nil n0
  obtain ⟨cc, sl, hRM'⟩ := hRM
  have hR := own_RMz hRM'
  refine g_aloadN X0 hx (hb hby d_prog_15_m_12_0) rfl rfl rfl ?_
  refine g_getF X0 hx hZ hown (host := "") (Or.inl (hw _ (List.mem_of_getElem? (i := 30) rfl))) Via.refl e0 F_openNests_a (hb hby d_prog_15_m_12_1) rfl fun T1 X1 e1 => ?_
  refine g_ifaceUp X1 hx hZ hown (hw _ (List.mem_of_getElem? (i := 56) rfl)) (hw _ (List.mem_of_getElem? (i := 57) rfl)) (hw _ (List.mem_of_getElem? (i := 58) rfl)) (by decide) (by decide) (hw _ (List.mem_of_getElem? (i := 59) rfl)) (hw _ (List.mem_of_getElem? (i := 60) rfl)) (hw _ (List.mem_of_getElem? (i := 61) rfl)) (hw _ (List.mem_of_getElem? (i := 62) rfl)) (hw _ (List.mem_of_getElem? (i := 63) rfl)) (hw _ (List.mem_of_getElem? (i := 15) rfl)) (hw _ (List.mem_of_getElem? (i := 64) rfl)) (by decide) (a := dq) E_dq (rm_dqemp l Z a0 hw dq h0 n0 Z0 F_head_dq F_tail_dq) (by rw [hml]; rfl) e1 [] rfl rfl (W := 0) (Nat.le_of_eq rfl) (by decide) (by decide) (by decide) (by decide) (lenOf pd_5 rfl) (hb hby d_prog_15_m_12_4) rfl fun v2 T2 L2 X2 hQ2 => ?_
  obtain ⟨rfl, Nq2, eh2⟩ := hQ2
  have N2 := Fr.app N0 Nq2
  show Ga _ _ _ _ _ _ _ _ _ _ _ [(.int (1 : Int32))]
  refine g_ifY X2 hx (q := 34) (hb hby d_prog_15_m_12_9) (XT.i0_ne_t (by decide : ¬ (1 : Int32) = (0 : Int32))) (by decide) (by decide) ?_
  refine g_aloadN X2 hx (hb hby d_prog_15_m_12_34) rfl rfl rfl ?_
  refine g_iconst X2 hx (r := (0 : Int32)) (hb hby d_prog_15_m_12_35) rfl rfl ?_
  refine g_aloadN X2 hx (hb hby d_prog_15_m_12_36) rfl rfl rfl ?_
  refine g_getF X2 hx hZ hown (host := "") (Or.inl (hw _ (List.mem_of_getElem? (i := 44) rfl))) Via.refl eh2 F_length_a (hb hby d_prog_15_m_12_37) rfl fun T3 X3 e3 => ?_
  refine g_private X3 hx hZ hown (hw _ (List.mem_of_getElem? (i := 69) rfl)) (hw _ (List.mem_of_getElem? (i := 70) rfl)) (hw _ (List.mem_of_getElem? (i := 3) rfl)) (hw _ (List.mem_of_getElem? (i := 71) rfl)) (hw _ (List.mem_of_getElem? (i := 4) rfl)) (hw _ (List.mem_of_getElem? (i := 72) rfl)) (by decide) (a := a) E_a (rm_su0 l Z a0 hw a b ka vs n z h0 n0 Z0 F_bytes_a V_b g_b ne_a_b hR.1 hR.2.2.2.2) (by rw [hml]; rfl) e3 [(.int (0 : Int32)), (.int n)] rfl rfl (W := 0) (Nat.le_of_eq rfl) (by decide) (by decide) (by decide) (by decide) (lenOf pd_6 rfl) (hb hby d_prog_15_m_12_40) rfl fun v4 T4 L4 X4 hQ4 => ?_
  obtain ⟨rfl, Nq4, kc4, p4_0⟩ := hQ4
  have N4 := Fr.app N2 Nq4
  have kk4 : Keep h0 T4.heap [b] := (Keep.refl h0 [b]).trans kc4 (allS (Or.inl (by simp)) all0)
  have Z4 : n0 ≤ T4.heap.size := Nat.le_trans Z0 kc4.1
  show Ga _ _ _ _ _ _ _ _ _ _ _ []
  refine g_aloadN X4 hx (hb hby d_prog_15_m_12_43) rfl rfl rfl ?_
  refine g_iconst X4 hx (r := (2 : Int32)) (hb hby d_prog_15_m_12_44) rfl rfl ?_
  refine g_aloadN X4 hx (hb hby d_prog_15_m_12_45) rfl rfl rfl ?_
  have f6 : Fld Z T4.heap a "com/example/glowworm/glowworm/NetlinkWriter" "length" "I" (.int n) := (F_length_a.keep kc4 (ninS ne_a_b nin0))
  refine g_getF X4 hx hZ hown (host := "") (Or.inl (hw _ (List.mem_of_getElem? (i := 44) rfl))) Via.refl rfl f6 (hb hby d_prog_15_m_12_46) rfl fun T5 X5 e5 => ?_
  refine g_bipush X5 hx (r := (16 : Int32)) (hb hby d_prog_15_m_12_49) rfl rfl ?_
  refine g_iushr X5 hx (hb hby d_prog_15_m_12_51) rfl rfl ?_
  have f8 : Fld Z T4.heap a "com/example/glowworm/glowworm/NetlinkWriter" "bytes" "[B" (.ref b) := (F_bytes_a.keep kc4 (ninS ne_a_b nin0))
  have f9 : Exa Z T4.heap a "com/example/glowworm/glowworm/NetlinkWriter" := (E_a.keep kc4)
  refine g_private X5 hx hZ hown (hw _ (List.mem_of_getElem? (i := 69) rfl)) (hw _ (List.mem_of_getElem? (i := 70) rfl)) (hw _ (List.mem_of_getElem? (i := 3) rfl)) (hw _ (List.mem_of_getElem? (i := 71) rfl)) (hw _ (List.mem_of_getElem? (i := 4) rfl)) (hw _ (List.mem_of_getElem? (i := 72) rfl)) (by decide) (a := a) f9 (rm_su2 l Z a0 hw a b ka (List.set (List.set vs ((0 : Int32)).toNatClampNeg (.int (n.toInt8.toInt32))) ((1 : Int32)).toNatClampNeg (.int (((n.toUInt32 >>> ((8 : Int32) &&& 31).toUInt32).toInt32).toInt8.toInt32))) ((n.toUInt32 >>> ((16 : Int32) &&& 31).toUInt32).toInt32) z T4.heap n0 Z4 f8 p4_0 g_b ne_a_b hR.1 (by simp only [List.length_set]; exact hR.2.2.2.2)) (by rw [hml]; rfl) e5 [(.int (2 : Int32)), (.int ((n.toUInt32 >>> ((16 : Int32) &&& 31).toUInt32).toInt32))] rfl rfl (W := 0) (Nat.le_of_eq rfl) (by decide) (by decide) (by decide) (by decide) (lenOf pd_6 rfl) (hb hby d_prog_15_m_12_52) rfl fun v7 T7 L7 X7 hQ7 => ?_
  obtain ⟨rfl, Nq7, kc7, p7_0⟩ := hQ7
  have N7 := Fr.app N4 Nq7
  have kk7 : Keep h0 T7.heap [b] := kk4.trans kc7 (allS (Or.inl (by simp)) all0)
  have Z7 : n0 ≤ T7.heap.size := Nat.le_trans Z4 kc7.1
  show Ga _ _ _ _ _ _ _ _ _ _ _ []
  refine g_aloadN X7 hx (hb hby d_prog_15_m_12_55) rfl rfl rfl ?_
  have f11 : Fld Z T7.heap a "com/example/glowworm/glowworm/NetlinkWriter" "bytes" "[B" (.ref b) := (f8.keep kc7 (ninS ne_a_b nin0))
  refine g_getF X7 hx hZ hown (host := "") (Or.inl (hw _ (List.mem_of_getElem? (i := 11) rfl))) Via.refl rfl f11 (hb hby d_prog_15_m_12_56) rfl fun T10 X10 e10 => ?_
  refine g_aloadN X10 hx (hb hby d_prog_15_m_12_59) rfl rfl rfl ?_
  have f13 : Fld Z T7.heap a "com/example/glowworm/glowworm/NetlinkWriter" "length" "I" (.int n) := (f6.keep kc7 (ninS ne_a_b nin0))
  refine g_getF X10 hx hZ hown (host := "") (Or.inl (hw _ (List.mem_of_getElem? (i := 44) rfl))) Via.refl e10 f13 (hb hby d_prog_15_m_12_60) rfl fun T12 X12 e12 => ?_
  have f15 : Exa Z T7.heap b "[B" := ((E_b.keep kc4).keep kc7)
  refine g_static X12 hx hZ hown (hw _ (List.mem_of_getElem? (i := 73) rfl)) (hw _ (List.mem_of_getElem? (i := 74) rfl)) (hw _ (List.mem_of_getElem? (i := 75) rfl)) (hw _ (List.mem_of_getElem? (i := 76) rfl)) (by decide) (rm_cpT l Z a0 hw b ka (List.set (List.set (List.set (List.set vs ((0 : Int32)).toNatClampNeg (.int (n.toInt8.toInt32))) ((1 : Int32)).toNatClampNeg (.int (((n.toUInt32 >>> ((8 : Int32) &&& 31).toUInt32).toInt32).toInt8.toInt32))) ((2 : Int32)).toNatClampNeg (.int (((n.toUInt32 >>> ((16 : Int32) &&& 31).toUInt32).toInt32).toInt8.toInt32))) ((3 : Int32)).toNatClampNeg (.int (((((n.toUInt32 >>> ((16 : Int32) &&& 31).toUInt32).toInt32).toUInt32 >>> ((8 : Int32) &&& 31).toUInt32).toInt32).toInt8.toInt32))) z n T7.heap n0 Z7 p7_0 f15 hn0 hR.2.2.1 hR.2.2.2.1 hR.1 hR.2.1) (by rw [hml]; rfl) e12 [(.ref b), (.int n)] rfl rfl (W := 0) (Nat.le_of_eq rfl) (by decide) (by decide) (by decide) (by decide) (lenOf pd_4 rfl) (hb hby d_prog_15_m_12_63) rfl fun v14 T14 L14 X14 hQ14 => ?_
  obtain ⟨d_14, kd_14, ds_14, rfl, Nq14, kc14, p14_0, p14_1, p14_2⟩ := hQ14
  have N14 := Fr.app N7 Nq14
  have f16 : Exa Z T7.heap dq "java/util/ArrayDeque" := ((E_dq.keep kc4).keep kc7)
  have ne_a_d_14 : a ≠ d_14 := own_neK f13.lt p14_0
  have ne_b_d_14 : b ≠ d_14 := own_neK f15.lt p14_0
  have ne_dq_d_14 : dq ≠ d_14 := own_neK f16.lt p14_0
  have g_d_14 : n0 ≤ d_14 := Nat.le_trans Z7 p14_0
  have sz_d_14 : h0.size ≤ d_14 := Nat.le_trans kk7.1 p14_0
  have kk14 : Keep h0 T14.heap [b] := kk7.trans kc14 all0
  have Z14 : n0 ≤ T14.heap.size := Nat.le_trans Z7 kc14.1
  have hdg_14 := p14_2
  show Ga _ _ _ _ _ _ _ _ _ _ _ [(.ref d_14)]
  exact g_retR X14 hx hret hlk rfl rfl rfl (hb hby d_prog_15_m_12_66) (by decide) (by decide) ⟨d_14, kd_14, ds_14, rfl, N14, kk14, sz_d_14, p14_1, (fun j hj => (hdg_14 j hj).trans (own_T4 (by have q := hR.2.2.2.2; have w := own_nat (j := (3 : Int32)) (by decide) (own_zlt hR.1 (by decide)); have e3 : ((3 : Int32)).toNatClampNeg = 3 := rfl; omega) hC j hj))⟩
def Q_hdb (Z : State) (k : Int32) (N : Int32) (y1 : Int32) (y2 : Int32) (y3 : Int32) (y4 : Int32) (h0 : Heap) (n0 : Nat) (v : Option Value) (h : Heap) (L : List Loc) : Prop := v = some (.int (own_hb k N y1 y2 y3 y4)) ∧ Fr n0 L ∧ h = h0
theorem ef_hdb (m : MethodId) (x0 : Int32) (x1 : Int32) (x2 : Int32) (x3 : Int32) (x4 : Int32) (x5 : Int32) : entryFrame m #[(.int x0), (.int x1), (.int x2), (.int x3), (.int x4), (.int x5)] 8 = mkF m 0 #[.val (.int x0), .val (.int x1), .val (.int x2), .val (.int x3), .val (.int x4), .val (.int x5), .unset, .unset] [] := by first | (simp [entryFrame, mkF, argsToLocals, Value.category]; done) | rfl
set_option maxRecDepth 65536 in
set_option maxHeartbeats 40000000 in
theorem rm_hdb (l : Launch) (Z : State) (a0 : Array Value) (hw : ∀ d ∈ tables_1, d.before a0 Z = true) (k : Int32) (N : Int32) (y1 : Int32) (y2 : Int32) (y3 : Int32) (y4 : Int32) (h0 : Heap) (n0 : Nat) (Z0 : n0 ≤ h0.size) :
    Ct l Z (⟨"com/example/glowworm/glowworm/NetlinkWriterRawPinLaw", "headerByte", "(IIIIII)B"⟩ : MethodName) method_3_code 8 (some .byte) [] ({ frames := 0, cells := 0, slots := 0, locals := 0 } : Room) #[(.int k), (.int N), (.int y1), (.int y2), (.int y3), (.int y4)] h0 (Q_hdb Z k N y1 y2 y3 y4 h0 n0) := by
  refine own_body (plainFor_of_name pn_4) (fun m => ef_hdb m k N y1 y2 y3 y4) ?_
  intro p e s m below meth c T0 hx hby hml hZ hown hnm hret hlk X0 e0
  have N0 := Fr.nil n0
  refine g_iloadN X0 hx (hb hby d_m_3_0) rfl rfl ?_
  refine g_iconst X0 hx (r := (4 : Int32)) (hb hby d_m_3_1) rfl rfl ?_
  by_cases hc2 : k < (4 : Int32)
  · skip
    refine g_icmpN X0 hx (hb hby d_m_3_2) rfl (XT.ii_ge_f hc2) ?_
    refine g_iloadN X0 hx (hb hby d_m_3_5) rfl rfl ?_
    refine g_istore X0 hx (Ls' := #[.val (.int k), .val (.int N), .val (.int y1), .val (.int y2), .val (.int y3), .val (.int y4), .val (.int N), .unset]) (hb hby d_m_3_6) rfl rfl ?_
    refine g_iloadN X0 hx (hb hby d_m_3_8) rfl rfl ?_
    refine g_istore X0 hx (Ls' := #[.val (.int k), .val (.int N), .val (.int y1), .val (.int y2), .val (.int y3), .val (.int y4), .val (.int N), .val (.int k)]) (hb hby d_m_3_9) rfl rfl ?_
    refine g_goto X0 hx (q := 78) (hb hby d_m_3_11) (by decide) (by decide) ?_
    refine g_iload X0 hx (hb hby d_m_3_78) rfl rfl ?_
    refine g_bipush X0 hx (r := (8 : Int32)) (hb hby d_m_3_80) rfl rfl ?_
    refine g_iload X0 hx (hb hby d_m_3_82) rfl rfl ?_
    refine g_imul X0 hx (hb hby d_m_3_84) rfl rfl ?_
    refine g_iushr X0 hx (hb hby d_m_3_85) rfl rfl ?_
    refine g_i2b X0 hx (hb hby d_m_3_86) rfl rfl ?_
    exact g_retN X0 hx (t := .byte) hret (by simp) hlk (hb hby d_m_3_87) (own_bb _) (by decide) (by decide) (by rw [e0]; exact ⟨(by rw [own_hb, if_pos hc2]), N0, rfl⟩)
  · skip
    refine g_icmpY X0 hx (q := 14) (hb hby d_m_3_2) (XT.ii_ge_t hc2) (by decide) (by decide) ?_
    refine g_iloadN X0 hx (hb hby d_m_3_14) rfl rfl ?_
    refine g_bipush X0 hx (r := (6 : Int32)) (hb hby d_m_3_15) rfl rfl ?_
    by_cases hc17 : k < (6 : Int32)
    · skip
      refine g_icmpN X0 hx (hb hby d_m_3_17) rfl (XT.ii_ge_f hc17) ?_
      refine g_iloadN X0 hx (hb hby d_m_3_20) rfl rfl ?_
      refine g_istore X0 hx (Ls' := #[.val (.int k), .val (.int N), .val (.int y1), .val (.int y2), .val (.int y3), .val (.int y4), .val (.int y1), .unset]) (hb hby d_m_3_21) rfl rfl ?_
      refine g_iloadN X0 hx (hb hby d_m_3_23) rfl rfl ?_
      refine g_iconst X0 hx (r := (4 : Int32)) (hb hby d_m_3_24) rfl rfl ?_
      refine g_isub X0 hx (hb hby d_m_3_25) rfl rfl ?_
      refine g_istore X0 hx (Ls' := #[.val (.int k), .val (.int N), .val (.int y1), .val (.int y2), .val (.int y3), .val (.int y4), .val (.int y1), .val (.int (k - (4 : Int32)))]) (hb hby d_m_3_26) rfl rfl ?_
      refine g_goto X0 hx (q := 78) (hb hby d_m_3_28) (by decide) (by decide) ?_
      refine g_iload X0 hx (hb hby d_m_3_78) rfl rfl ?_
      refine g_bipush X0 hx (r := (8 : Int32)) (hb hby d_m_3_80) rfl rfl ?_
      refine g_iload X0 hx (hb hby d_m_3_82) rfl rfl ?_
      refine g_imul X0 hx (hb hby d_m_3_84) rfl rfl ?_
      refine g_iushr X0 hx (hb hby d_m_3_85) rfl rfl ?_
      refine g_i2b X0 hx (hb hby d_m_3_86) rfl rfl ?_
      exact g_retN X0 hx (t := .byte) hret (by simp) hlk (hb hby d_m_3_87) (own_bb _) (by decide) (by decide) (by rw [e0]; exact ⟨(by rw [own_hb, if_neg hc2, if_pos hc17]), N0, rfl⟩)
    · skip
      refine g_icmpY X0 hx (q := 31) (hb hby d_m_3_17) (XT.ii_ge_t hc17) (by decide) (by decide) ?_
      refine g_iloadN X0 hx (hb hby d_m_3_31) rfl rfl ?_
      refine g_bipush X0 hx (r := (8 : Int32)) (hb hby d_m_3_32) rfl rfl ?_
      by_cases hc34 : k < (8 : Int32)
      · skip
        refine g_icmpN X0 hx (hb hby d_m_3_34) rfl (XT.ii_ge_f hc34) ?_
        refine g_iloadN X0 hx (hb hby d_m_3_37) rfl rfl ?_
        refine g_istore X0 hx (Ls' := #[.val (.int k), .val (.int N), .val (.int y1), .val (.int y2), .val (.int y3), .val (.int y4), .val (.int y2), .unset]) (hb hby d_m_3_38) rfl rfl ?_
        refine g_iloadN X0 hx (hb hby d_m_3_40) rfl rfl ?_
        refine g_bipush X0 hx (r := (6 : Int32)) (hb hby d_m_3_41) rfl rfl ?_
        refine g_isub X0 hx (hb hby d_m_3_43) rfl rfl ?_
        refine g_istore X0 hx (Ls' := #[.val (.int k), .val (.int N), .val (.int y1), .val (.int y2), .val (.int y3), .val (.int y4), .val (.int y2), .val (.int (k - (6 : Int32)))]) (hb hby d_m_3_44) rfl rfl ?_
        refine g_goto X0 hx (q := 78) (hb hby d_m_3_46) (by decide) (by decide) ?_
        refine g_iload X0 hx (hb hby d_m_3_78) rfl rfl ?_
        refine g_bipush X0 hx (r := (8 : Int32)) (hb hby d_m_3_80) rfl rfl ?_
        refine g_iload X0 hx (hb hby d_m_3_82) rfl rfl ?_
        refine g_imul X0 hx (hb hby d_m_3_84) rfl rfl ?_
        refine g_iushr X0 hx (hb hby d_m_3_85) rfl rfl ?_
        refine g_i2b X0 hx (hb hby d_m_3_86) rfl rfl ?_
        exact g_retN X0 hx (t := .byte) hret (by simp) hlk (hb hby d_m_3_87) (own_bb _) (by decide) (by decide) (by rw [e0]; exact ⟨(by rw [own_hb, if_neg hc2, if_neg hc17, if_pos hc34]), N0, rfl⟩)
      · skip
        refine g_icmpY X0 hx (q := 49) (hb hby d_m_3_34) (XT.ii_ge_t hc34) (by decide) (by decide) ?_
        refine g_iloadN X0 hx (hb hby d_m_3_49) rfl rfl ?_
        refine g_bipush X0 hx (r := (12 : Int32)) (hb hby d_m_3_50) rfl rfl ?_
        by_cases hc52 : k < (12 : Int32)
        · skip
          refine g_icmpN X0 hx (hb hby d_m_3_52) rfl (XT.ii_ge_f hc52) ?_
          refine g_iload X0 hx (hb hby d_m_3_55) rfl rfl ?_
          refine g_istore X0 hx (Ls' := #[.val (.int k), .val (.int N), .val (.int y1), .val (.int y2), .val (.int y3), .val (.int y4), .val (.int y3), .unset]) (hb hby d_m_3_57) rfl rfl ?_
          refine g_iloadN X0 hx (hb hby d_m_3_59) rfl rfl ?_
          refine g_bipush X0 hx (r := (8 : Int32)) (hb hby d_m_3_60) rfl rfl ?_
          refine g_isub X0 hx (hb hby d_m_3_62) rfl rfl ?_
          refine g_istore X0 hx (Ls' := #[.val (.int k), .val (.int N), .val (.int y1), .val (.int y2), .val (.int y3), .val (.int y4), .val (.int y3), .val (.int (k - (8 : Int32)))]) (hb hby d_m_3_63) rfl rfl ?_
          refine g_goto X0 hx (q := 78) (hb hby d_m_3_65) (by decide) (by decide) ?_
          refine g_iload X0 hx (hb hby d_m_3_78) rfl rfl ?_
          refine g_bipush X0 hx (r := (8 : Int32)) (hb hby d_m_3_80) rfl rfl ?_
          refine g_iload X0 hx (hb hby d_m_3_82) rfl rfl ?_
          refine g_imul X0 hx (hb hby d_m_3_84) rfl rfl ?_
          refine g_iushr X0 hx (hb hby d_m_3_85) rfl rfl ?_
          refine g_i2b X0 hx (hb hby d_m_3_86) rfl rfl ?_
          exact g_retN X0 hx (t := .byte) hret (by simp) hlk (hb hby d_m_3_87) (own_bb _) (by decide) (by decide) (by rw [e0]; exact ⟨(by rw [own_hb, if_neg hc2, if_neg hc17, if_neg hc34, if_pos hc52]), N0, rfl⟩)
        · skip
          refine g_icmpY X0 hx (q := 68) (hb hby d_m_3_52) (XT.ii_ge_t hc52) (by decide) (by decide) ?_
          refine g_iload X0 hx (hb hby d_m_3_68) rfl rfl ?_
          refine g_istore X0 hx (Ls' := #[.val (.int k), .val (.int N), .val (.int y1), .val (.int y2), .val (.int y3), .val (.int y4), .val (.int y4), .unset]) (hb hby d_m_3_70) rfl rfl ?_
          refine g_iloadN X0 hx (hb hby d_m_3_72) rfl rfl ?_
          refine g_bipush X0 hx (r := (12 : Int32)) (hb hby d_m_3_73) rfl rfl ?_
          refine g_isub X0 hx (hb hby d_m_3_75) rfl rfl ?_
          refine g_istore X0 hx (Ls' := #[.val (.int k), .val (.int N), .val (.int y1), .val (.int y2), .val (.int y3), .val (.int y4), .val (.int y4), .val (.int (k - (12 : Int32)))]) (hb hby d_m_3_76) rfl rfl ?_
          refine g_iload X0 hx (hb hby d_m_3_78) rfl rfl ?_
          refine g_bipush X0 hx (r := (8 : Int32)) (hb hby d_m_3_80) rfl rfl ?_
          refine g_iload X0 hx (hb hby d_m_3_82) rfl rfl ?_
          refine g_imul X0 hx (hb hby d_m_3_84) rfl rfl ?_
          refine g_iushr X0 hx (hb hby d_m_3_85) rfl rfl ?_
          refine g_i2b X0 hx (hb hby d_m_3_86) rfl rfl ?_
          exact g_retN X0 hx (t := .byte) hret (by simp) hlk (hb hby d_m_3_87) (own_bb _) (by decide) (by decide) (by rw [e0]; exact ⟨(by rw [own_hb, if_neg hc2, if_neg hc17, if_neg hc34, if_neg hc52]), N0, rfl⟩)
def Q_arb (Z : State) (i : Int32) (n : Int32) (mid : Int32) (xf : Int32) (xl : Int32) (xm : Int32) (h0 : Heap) (n0 : Nat) (v : Option Value) (h : Heap) (L : List Loc) : Prop := v = some (.int (own_ab i n mid xf xl xm)) ∧ Fr n0 L ∧ h = h0
theorem ef_arb (m : MethodId) (x0 : Int32) (x1 : Int32) (x2 : Int32) (x3 : Int32) (x4 : Int32) (x5 : Int32) : entryFrame m #[(.int x0), (.int x1), (.int x2), (.int x3), (.int x4), (.int x5)] 6 = mkF m 0 #[.val (.int x0), .val (.int x1), .val (.int x2), .val (.int x3), .val (.int x4), .val (.int x5)] [] := by first | (simp [entryFrame, mkF, argsToLocals, Value.category]; done) | rfl
set_option maxRecDepth 65536 in
set_option maxHeartbeats 40000000 in
theorem rm_arb (l : Launch) (Z : State) (a0 : Array Value) (hw : ∀ d ∈ tables_1, d.before a0 Z = true) (i : Int32) (n : Int32) (mid : Int32) (xf : Int32) (xl : Int32) (xm : Int32) (h0 : Heap) (n0 : Nat) (Z0 : n0 ≤ h0.size) (hfb : xf.toInt8.toInt32 = xf) (hlb : xl.toInt8.toInt32 = xl) (hmb : xm.toInt8.toInt32 = xm) :
    Ct l Z (⟨"com/example/glowworm/glowworm/NetlinkWriterRawPinLaw", "arrayByte", "(IIIBBB)B"⟩ : MethodName) method_4_code 6 (some .byte) [] ({ frames := 0, cells := 0, slots := 0, locals := 0 } : Room) #[(.int i), (.int n), (.int mid), (.int xf), (.int xl), (.int xm)] h0 (Q_arb Z i n mid xf xl xm h0 n0) := by
  refine own_body (plainFor_of_name pn_4) (fun m => ef_arb m i n mid xf xl xm) ?_
  intro p e s m below meth c T0 hx hby hml hZ hown hnm hret hlk X0 e0
  have N0 := Fr.nil n0
  refine g_iloadN X0 hx (hb hby d_m_4_0) rfl rfl ?_
  refine g_iloadN X0 hx (hb hby d_m_4_1) rfl rfl ?_
  refine g_iconst X0 hx (r := (1 : Int32)) (hb hby d_m_4_2) rfl rfl ?_
  refine g_isub X0 hx (hb hby d_m_4_3) rfl rfl ?_
  by_cases hc4 : i = (n - (1 : Int32))
  · skip
    refine g_icmpN X0 hx (hb hby d_m_4_4) rfl (XT.ii_ne_f hc4) ?_
    refine g_iload X0 hx (hb hby d_m_4_7) rfl rfl ?_
    exact g_retN X0 hx (t := .byte) hret (by simp) hlk (hb hby d_m_4_9) hlb (by decide) (by decide) (by rw [e0]; exact ⟨(by rw [own_ab, if_pos hc4]), N0, rfl⟩)
  · skip
    refine g_icmpY X0 hx (q := 10) (hb hby d_m_4_4) (XT.ii_ne_t hc4) (by decide) (by decide) ?_
    refine g_iloadN X0 hx (hb hby d_m_4_10) rfl rfl ?_
    by_cases hc11 : i = (0 : Int32)
    · skip
      refine g_ifN X0 hx (hb hby d_m_4_11) rfl (XT.i0_ne_f hc11) ?_
      refine g_iloadN X0 hx (hb hby d_m_4_14) rfl rfl ?_
      exact g_retN X0 hx (t := .byte) hret (by simp) hlk (hb hby d_m_4_15) hfb (by decide) (by decide) (by rw [e0]; exact ⟨(by rw [own_ab, if_neg hc4, if_pos hc11]), N0, rfl⟩)
    · skip
      refine g_ifY X0 hx (q := 16) (hb hby d_m_4_11) (XT.i0_ne_t hc11) (by decide) (by decide) ?_
      refine g_iloadN X0 hx (hb hby d_m_4_16) rfl rfl ?_
      refine g_iloadN X0 hx (hb hby d_m_4_17) rfl rfl ?_
      by_cases hc18 : i = mid
      · skip
        refine g_icmpN X0 hx (hb hby d_m_4_18) rfl (XT.ii_ne_f hc18) ?_
        refine g_iload X0 hx (hb hby d_m_4_21) rfl rfl ?_
        exact g_retN X0 hx (t := .byte) hret (by simp) hlk (hb hby d_m_4_23) hmb (by decide) (by decide) (by rw [e0]; exact ⟨(by rw [own_ab, if_neg hc4, if_neg hc11, if_pos hc18]), N0, rfl⟩)
      · skip
        refine g_icmpY X0 hx (q := 24) (hb hby d_m_4_18) (XT.ii_ne_t hc18) (by decide) (by decide) ?_
        refine g_iconst X0 hx (r := (0 : Int32)) (hb hby d_m_4_24) rfl rfl ?_
        exact g_retN X0 hx (t := .byte) (r := (0 : Int32)) hret (by simp) hlk (hb hby d_m_4_25) rfl (by decide) (by decide) (by rw [e0]; exact ⟨(by rw [own_ab, if_neg hc4, if_neg hc11, if_neg hc18]), N0, rfl⟩)
def Q_law (Z : State) (p0 : Int32) (p1 : Int32) (p2 : Int32) (p3 : Int32) (p4 : Int64) (p5 : Int32) (h0 : Heap) (n0 : Nat) (v : Option Value) (h : Heap) (L : List Loc) : Prop := v = some (.int 1) ∧ Fr n0 L
theorem ef_law (m : MethodId) (x0 : Int32) (x1 : Int32) (x2 : Int32) (x3 : Int32) (x4 : Int64) (x5 : Int32) : entryFrame m #[(.int x0), (.int x1), (.int x2), (.int x3), (.long x4), (.int x5)] maxLocals = mkF m 0 #[.val (.int x0), .val (.int x1), .val (.int x2), .val (.int x3), .val (.long x4), .second, .val (.int x5), .unset, .unset, .unset, .unset, .unset, .unset, .unset, .unset, .unset, .unset, .unset, .unset, .unset, .unset, .unset, .unset, .unset, .unset, .unset] [] := by first | (simp [entryFrame, mkF, argsToLocals, Value.category, maxLocals]; done) | rfl
set_option maxRecDepth 65536 in
set_option maxHeartbeats 40000000 in
theorem rm_law (l : Launch) (Z : State) (a0 : Array Value) (hw : ∀ d ∈ tables_1, d.before a0 Z = true) (ws : List Jvm.Cond) (p0 : Int32) (p1 : Int32) (p2 : Int32) (p3 : Int32) (p4 : Int64) (p5 : Int32) (h0 : Heap) (n0 : Nat) (Z0 : n0 ≤ h0.size) :
    Ct l Z x code maxLocals ret ws room_1 #[(.int p0), (.int p1), (.int p2), (.int p3), (.long p4), (.int p5)] h0 (Q_law Z p0 p1 p2 p3 p4 p5 h0 n0) := by
  refine own_body (plainFor_of_name pn_4) (fun m => ef_law m p0 p1 p2 p3 p4 p5) ?_
  intro p e s m below meth c T0 hx hby hml hZ hown hnm hret hlk X0 e0
  have N0 := Fr.nil n0
  refine g_iload X0 hx (hb hby at_0) rfl rfl ?_
  refine g_bipush X0 hx (r := (63 : Int32)) (hb hby at_2) rfl rfl ?_
  obtain ⟨v4, hv4⟩ : ∃ r, (p5 &&& (63 : Int32)) = r := ⟨_, rfl⟩
  refine g_iand X0 hx (hb hby at_4) rfl hv4 ?_
  refine g_istore X0 hx (Ls' := #[.val (.int p0), .val (.int p1), .val (.int p2), .val (.int p3), .val (.long p4), .second, .val (.int p5), .val (.int v4), .unset, .unset, .unset, .unset, .unset, .unset, .unset, .unset, .unset, .unset, .unset, .unset, .unset, .unset, .unset, .unset, .unset, .unset]) (hb hby at_5) rfl rfl ?_
  refine g_iload X0 hx (hb hby at_7) rfl rfl ?_
  refine g_bipush X0 hx (r := (6 : Int32)) (hb hby at_9) rfl rfl ?_
  refine g_iushr X0 hx (hb hby at_11) rfl rfl ?_
  refine g_bipush X0 hx (r := (63 : Int32)) (hb hby at_12) rfl rfl ?_
  obtain ⟨v14, hv14⟩ : ∃ r, (((p5.toUInt32 >>> ((6 : Int32) &&& 31).toUInt32).toInt32) &&& (63 : Int32)) = r := ⟨_, rfl⟩
  refine g_iand X0 hx (hb hby at_14) rfl hv14 ?_
  refine g_istore X0 hx (Ls' := #[.val (.int p0), .val (.int p1), .val (.int p2), .val (.int p3), .val (.long p4), .second, .val (.int p5), .val (.int v4), .val (.int v14), .unset, .unset, .unset, .unset, .unset, .unset, .unset, .unset, .unset, .unset, .unset, .unset, .unset, .unset, .unset, .unset, .unset]) (hb hby at_15) rfl rfl ?_
  have n4 := own_n63v hv4
  have n14 := own_n63v hv14
  have htt := own_tot n4.2.2.2.1 n4.2.2.1 n14.2.2.2.1 n14.2.2.1
  have htot : 0 < (((16 : Int32) + v4) + v14).toInt := by rw [htt.1]; have q1 := n4.2.2.2.1; have q2 := n14.2.2.2.1; omega
  refine g_iload X0 hx (hb hby at_17) rfl rfl ?_
  by_cases hc19 : (0 : Int32) < v4
  · skip
    refine g_ifN X0 hx (hb hby at_19) rfl (XT.i0_le_f hc19) ?_
    refine g_lload X0 hx (hb hby at_22) rfl rfl ?_
    refine g_bipush X0 hx (r := (48 : Int32)) (hb hby at_24) rfl rfl ?_
    refine g_lushr X0 hx (hb hby at_26) rfl rfl ?_
    refine g_ldc2 X0 hx hZ hown (hw _ (List.mem_of_getElem? (i := 0) rfl)) (hb hby at_27) rfl ?_
    refine g_land X0 hx (hb hby at_30) rfl rfl ?_
    refine g_iload X0 hx (hb hby at_31) rfl rfl ?_
    refine g_i2l X0 hx (hb hby at_33) rfl rfl ?_
    refine g_lrem X0 hx (hb hby at_34) rfl (own_nz64 hc19) rfl ?_
    obtain ⟨v35, hv35⟩ : ∃ r, (((((p4.toUInt64 >>> ((48 : Int32) &&& 0x3f).toInt64.toUInt64).toInt64) &&& (255 : Int64)) % (v4.toInt64)).toInt32) = r := ⟨_, rfl⟩
    refine g_l2i X0 hx (hb hby at_35) rfl hv35 ?_
    refine g_goto X0 hx (q := 40) (hb hby at_36) (by decide) (by decide) ?_
    refine g_istore X0 hx (Ls' := #[.val (.int p0), .val (.int p1), .val (.int p2), .val (.int p3), .val (.long p4), .second, .val (.int p5), .val (.int v4), .val (.int v14), .val (.int v35), .unset, .unset, .unset, .unset, .unset, .unset, .unset, .unset, .unset, .unset, .unset, .unset, .unset, .unset, .unset, .unset]) (hb hby at_40) rfl rfl ?_
    refine g_iload X0 hx (hb hby at_42) rfl rfl ?_
    by_cases hc44 : (0 : Int32) < v14
    · skip
      refine g_ifN X0 hx (hb hby at_44) rfl (XT.i0_le_f hc44) ?_
      refine g_lload X0 hx (hb hby at_47) rfl rfl ?_
      refine g_bipush X0 hx (r := (56 : Int32)) (hb hby at_49) rfl rfl ?_
      refine g_lushr X0 hx (hb hby at_51) rfl rfl ?_
      refine g_ldc2 X0 hx hZ hown (hw _ (List.mem_of_getElem? (i := 0) rfl)) (hb hby at_52) rfl ?_
      refine g_land X0 hx (hb hby at_55) rfl rfl ?_
      refine g_iload X0 hx (hb hby at_56) rfl rfl ?_
      refine g_i2l X0 hx (hb hby at_58) rfl rfl ?_
      refine g_lrem X0 hx (hb hby at_59) rfl (own_nz64 hc44) rfl ?_
      obtain ⟨v60, hv60⟩ : ∃ r, (((((p4.toUInt64 >>> ((56 : Int32) &&& 0x3f).toInt64.toUInt64).toInt64) &&& (255 : Int64)) % (v14.toInt64)).toInt32) = r := ⟨_, rfl⟩
      refine g_l2i X0 hx (hb hby at_60) rfl hv60 ?_
      refine g_goto X0 hx (q := 65) (hb hby at_61) (by decide) (by decide) ?_
      refine g_istore X0 hx (Ls' := #[.val (.int p0), .val (.int p1), .val (.int p2), .val (.int p3), .val (.long p4), .second, .val (.int p5), .val (.int v4), .val (.int v14), .val (.int v35), .val (.int v60), .unset, .unset, .unset, .unset, .unset, .unset, .unset, .unset, .unset, .unset, .unset, .unset, .unset, .unset, .unset]) (hb hby at_65) rfl rfl ?_
      refine g_lload X0 hx (hb hby at_67) rfl rfl ?_
      refine g_l2i X0 hx (hb hby at_69) rfl rfl ?_
      obtain ⟨v70, hv70⟩ : ∃ r, ((p4.toInt32).toInt8.toInt32) = r := ⟨_, rfl⟩
      refine g_i2b X0 hx (hb hby at_70) rfl hv70 ?_
      refine g_istore X0 hx (Ls' := #[.val (.int p0), .val (.int p1), .val (.int p2), .val (.int p3), .val (.long p4), .second, .val (.int p5), .val (.int v4), .val (.int v14), .val (.int v35), .val (.int v60), .val (.int v70), .unset, .unset, .unset, .unset, .unset, .unset, .unset, .unset, .unset, .unset, .unset, .unset, .unset, .unset]) (hb hby at_71) rfl rfl ?_
      refine g_lload X0 hx (hb hby at_73) rfl rfl ?_
      refine g_bipush X0 hx (r := (8 : Int32)) (hb hby at_75) rfl rfl ?_
      refine g_lushr X0 hx (hb hby at_77) rfl rfl ?_
      refine g_l2i X0 hx (hb hby at_78) rfl rfl ?_
      obtain ⟨v79, hv79⟩ : ∃ r, ((((p4.toUInt64 >>> ((8 : Int32) &&& 0x3f).toInt64.toUInt64).toInt64).toInt32).toInt8.toInt32) = r := ⟨_, rfl⟩
      refine g_i2b X0 hx (hb hby at_79) rfl hv79 ?_
      refine g_istore X0 hx (Ls' := #[.val (.int p0), .val (.int p1), .val (.int p2), .val (.int p3), .val (.long p4), .second, .val (.int p5), .val (.int v4), .val (.int v14), .val (.int v35), .val (.int v60), .val (.int v70), .val (.int v79), .unset, .unset, .unset, .unset, .unset, .unset, .unset, .unset, .unset, .unset, .unset, .unset, .unset]) (hb hby at_80) rfl rfl ?_
      refine g_lload X0 hx (hb hby at_82) rfl rfl ?_
      refine g_bipush X0 hx (r := (16 : Int32)) (hb hby at_84) rfl rfl ?_
      refine g_lushr X0 hx (hb hby at_86) rfl rfl ?_
      refine g_l2i X0 hx (hb hby at_87) rfl rfl ?_
      obtain ⟨v88, hv88⟩ : ∃ r, ((((p4.toUInt64 >>> ((16 : Int32) &&& 0x3f).toInt64.toUInt64).toInt64).toInt32).toInt8.toInt32) = r := ⟨_, rfl⟩
      refine g_i2b X0 hx (hb hby at_88) rfl hv88 ?_
      refine g_istore X0 hx (Ls' := #[.val (.int p0), .val (.int p1), .val (.int p2), .val (.int p3), .val (.long p4), .second, .val (.int p5), .val (.int v4), .val (.int v14), .val (.int v35), .val (.int v60), .val (.int v70), .val (.int v79), .val (.int v88), .unset, .unset, .unset, .unset, .unset, .unset, .unset, .unset, .unset, .unset, .unset, .unset]) (hb hby at_89) rfl rfl ?_
      refine g_lload X0 hx (hb hby at_91) rfl rfl ?_
      refine g_bipush X0 hx (r := (24 : Int32)) (hb hby at_93) rfl rfl ?_
      refine g_lushr X0 hx (hb hby at_95) rfl rfl ?_
      refine g_l2i X0 hx (hb hby at_96) rfl rfl ?_
      obtain ⟨v97, hv97⟩ : ∃ r, ((((p4.toUInt64 >>> ((24 : Int32) &&& 0x3f).toInt64.toUInt64).toInt64).toInt32).toInt8.toInt32) = r := ⟨_, rfl⟩
      refine g_i2b X0 hx (hb hby at_97) rfl hv97 ?_
      refine g_istore X0 hx (Ls' := #[.val (.int p0), .val (.int p1), .val (.int p2), .val (.int p3), .val (.long p4), .second, .val (.int p5), .val (.int v4), .val (.int v14), .val (.int v35), .val (.int v60), .val (.int v70), .val (.int v79), .val (.int v88), .val (.int v97), .unset, .unset, .unset, .unset, .unset, .unset, .unset, .unset, .unset, .unset, .unset]) (hb hby at_98) rfl rfl ?_
      refine g_lload X0 hx (hb hby at_100) rfl rfl ?_
      refine g_bipush X0 hx (r := (32 : Int32)) (hb hby at_102) rfl rfl ?_
      refine g_lushr X0 hx (hb hby at_104) rfl rfl ?_
      refine g_l2i X0 hx (hb hby at_105) rfl rfl ?_
      obtain ⟨v106, hv106⟩ : ∃ r, ((((p4.toUInt64 >>> ((32 : Int32) &&& 0x3f).toInt64.toUInt64).toInt64).toInt32).toInt8.toInt32) = r := ⟨_, rfl⟩
      refine g_i2b X0 hx (hb hby at_106) rfl hv106 ?_
      refine g_istore X0 hx (Ls' := #[.val (.int p0), .val (.int p1), .val (.int p2), .val (.int p3), .val (.long p4), .second, .val (.int p5), .val (.int v4), .val (.int v14), .val (.int v35), .val (.int v60), .val (.int v70), .val (.int v79), .val (.int v88), .val (.int v97), .val (.int v106), .unset, .unset, .unset, .unset, .unset, .unset, .unset, .unset, .unset, .unset]) (hb hby at_107) rfl rfl ?_
      refine g_lload X0 hx (hb hby at_109) rfl rfl ?_
      refine g_bipush X0 hx (r := (40 : Int32)) (hb hby at_111) rfl rfl ?_
      refine g_lushr X0 hx (hb hby at_113) rfl rfl ?_
      refine g_l2i X0 hx (hb hby at_114) rfl rfl ?_
      obtain ⟨v115, hv115⟩ : ∃ r, ((((p4.toUInt64 >>> ((40 : Int32) &&& 0x3f).toInt64.toUInt64).toInt64).toInt32).toInt8.toInt32) = r := ⟨_, rfl⟩
      refine g_i2b X0 hx (hb hby at_115) rfl hv115 ?_
      refine g_istore X0 hx (Ls' := #[.val (.int p0), .val (.int p1), .val (.int p2), .val (.int p3), .val (.long p4), .second, .val (.int p5), .val (.int v4), .val (.int v14), .val (.int v35), .val (.int v60), .val (.int v70), .val (.int v79), .val (.int v88), .val (.int v97), .val (.int v106), .val (.int v115), .unset, .unset, .unset, .unset, .unset, .unset, .unset, .unset, .unset]) (hb hby at_116) rfl rfl ?_
      have hb70 : v70.toInt8.toInt32 = v70 := by rw [← hv70]; exact own_bb _
      have hb79 : v79.toInt8.toInt32 = v79 := by rw [← hv79]; exact own_bb _
      have hb88 : v88.toInt8.toInt32 = v88 := by rw [← hv88]; exact own_bb _
      have hb97 : v97.toInt8.toInt32 = v97 := by rw [← hv97]; exact own_bb _
      have hb106 : v106.toInt8.toInt32 = v106 := by rw [← hv106]; exact own_bb _
      have hb115 : v115.toInt8.toInt32 = v115 := by rw [← hv115]; exact own_bb _
      have hGb : ∀ j, ((own_G p0 p1 p2 p3 (fun j => own_abN j v4.toNatClampNeg v35.toNatClampNeg v70 v79 v88) (fun j => own_abN j v14.toNatClampNeg v60.toNatClampNeg v97 v106 v115) v4.toNatClampNeg) j).toInt8.toInt32 = (own_G p0 p1 p2 p3 (fun j => own_abN j v4.toNatClampNeg v35.toNatClampNeg v70 v79 v88) (fun j => own_abN j v14.toNatClampNeg v60.toNatClampNeg v97 v106 v115) v4.toNatClampNeg) j := own_Gb (own_abNb hb70 hb79 hb88) (own_abNb hb97 hb106 hb115)
      refine g_iload X0 hx (hb hby at_118) rfl rfl ?_
      refine g_newarray X0 hx hZ (aty := .byte) (hw _ (List.mem_of_getElem? (i := 1) rfl)) e0 n4.1 63 n4.2.1 (by decide) (by decide) (by decide) (ad := "[B") (by decide) (hb hby at_120) rfl fun T1 h1 b1 ka1 X1 e1 q1 E1 A1 V1 => ?_
      have g_b1 : n0 ≤ b1 := Nat.le_trans Z0 (Nat.le_of_eq q1.symm)
      have Z1 : n0 ≤ h1.size := Nat.le_trans Z0 E1.1
      have Vn1 : Arv Z h1 b1 ka1 .byte v4 (List.replicate 63 (.int (0 : Int32))) (.int (0 : Int32)) := V1
      refine g_astore X1 hx (Ls' := #[.val (.int p0), .val (.int p1), .val (.int p2), .val (.int p3), .val (.long p4), .second, .val (.int p5), .val (.int v4), .val (.int v14), .val (.int v35), .val (.int v60), .val (.int v70), .val (.int v79), .val (.int v88), .val (.int v97), .val (.int v106), .val (.int v115), .val (.ref b1), .unset, .unset, .unset, .unset, .unset, .unset, .unset, .unset]) (hb hby at_122) rfl rfl rfl ?_
      refine g_iload X1 hx (hb hby at_124) rfl rfl ?_
      refine g_newarray X1 hx hZ (aty := .byte) (hw _ (List.mem_of_getElem? (i := 1) rfl)) e1 n14.1 63 n14.2.1 (by decide) (by decide) (by decide) (ad := "[B") (by decide) (hb hby at_126) rfl fun T2 h2 b2 ka2 X2 e2 q2 E2 A2 V2 => ?_
      have ne_b1_b2 : b1 ≠ b2 := own_ne Vn1.lt q2
      have g_b2 : n0 ≤ b2 := Nat.le_trans Z1 (Nat.le_of_eq q2.symm)
      have Z2 : n0 ≤ h2.size := Nat.le_trans Z1 E2.1
      have Vn2 : Arv Z h2 b2 ka2 .byte v14 (List.replicate 63 (.int (0 : Int32))) (.int (0 : Int32)) := V2
      refine g_astore X2 hx (Ls' := #[.val (.int p0), .val (.int p1), .val (.int p2), .val (.int p3), .val (.long p4), .second, .val (.int p5), .val (.int v4), .val (.int v14), .val (.int v35), .val (.int v60), .val (.int v70), .val (.int v79), .val (.int v88), .val (.int v97), .val (.int v106), .val (.int v115), .val (.ref b1), .val (.ref b2), .unset, .unset, .unset, .unset, .unset, .unset, .unset]) (hb hby at_128) rfl rfl rfl ?_
      refine g_iload X2 hx (hb hby at_130) rfl rfl ?_
      have hc132 : (0 : Int32) < v4 := hc19
      refine g_ifN X2 hx (hb hby at_132) rfl (XT.i0_le_f hc132) ?_
      refine g_aload X2 hx (hb hby at_135) rfl rfl rfl ?_
      refine g_iload X2 hx (hb hby at_137) rfl rfl ?_
      refine g_iload X2 hx (hb hby at_139) rfl rfl ?_
      have f3 : Arv Z h2 b1 ka1 .byte v4 (List.replicate 63 (.int (0 : Int32))) (.int (0 : Int32)) := (Vn1.ext E2)
      refine g_bastore X2 hx hZ e2 f3 (own_pr hv35 hc19 n4.2.2.1) (by simp only [List.length_set, List.length_replicate]; exact own_63 (own_pr hv35 hc19 n4.2.2.1).1 (own_pr hv35 hc19 n4.2.2.1).2 n4.2.1) (hb hby at_141) rfl fun T4 h4 X4 e4 W4 V4 => ?_
      rw [own_nar, hb88] at V4
      have Vn4 : Arv Z h4 b1 ka1 .byte v4 (List.set (List.replicate 63 (.int (0 : Int32))) (v35).toNatClampNeg (.int v88)) (.int (0 : Int32)) := V4
      have N4 := Fr.snoc X4 N0 g_b1
      have Z4 : n0 ≤ h4.size := by rw [W4.size]; exact Z2
      refine g_aload X4 hx (hb hby at_142) rfl rfl rfl ?_
      refine g_iconst X4 hx (r := (0 : Int32)) (hb hby at_144) rfl rfl ?_
      refine g_iload X4 hx (hb hby at_145) rfl rfl ?_
      refine g_bastore X4 hx hZ e4 Vn4 ⟨by decide, hc19⟩ (by simp only [List.length_set, List.length_replicate]; exact own_63 (by decide) hc19 n4.2.1) (hb hby at_147) rfl fun T5 h5 X5 e5 W5 V5 => ?_
      rw [own_nar, hb70] at V5
      have Vn5 : Arv Z h5 b1 ka1 .byte v4 (List.set (List.set (List.replicate 63 (.int (0 : Int32))) (v35).toNatClampNeg (.int v88)) ((0 : Int32)).toNatClampNeg (.int v70)) (.int (0 : Int32)) := V5
      have N5 := Fr.snoc X5 N4 g_b1
      have Z5 : n0 ≤ h5.size := by rw [W5.size]; exact Z4
      refine g_aload X5 hx (hb hby at_148) rfl rfl rfl ?_
      refine g_iload X5 hx (hb hby at_150) rfl rfl ?_
      refine g_iconst X5 hx (r := (1 : Int32)) (hb hby at_152) rfl rfl ?_
      refine g_isub X5 hx (hb hby at_153) rfl rfl ?_
      refine g_iload X5 hx (hb hby at_154) rfl rfl ?_
      refine g_bastore X5 hx hZ e5 Vn5 ⟨(own_m1 hc19).1, (own_m1 hc19).2.1⟩ (by simp only [List.length_set, List.length_replicate]; exact own_63 (own_m1 hc19).1 (own_m1 hc19).2.1 n4.2.1) (hb hby at_156) rfl fun T6 h6 X6 e6 W6 V6 => ?_
      rw [own_nar, hb79] at V6
      have Vn6 : Arv Z h6 b1 ka1 .byte v4 (List.set (List.set (List.set (List.replicate 63 (.int (0 : Int32))) (v35).toNatClampNeg (.int v88)) ((0 : Int32)).toNatClampNeg (.int v70)) ((v4 - (1 : Int32))).toNatClampNeg (.int v79)) (.int (0 : Int32)) := V6
      have N6 := Fr.snoc X6 N5 g_b1
      have Z6 : n0 ≤ h6.size := by rw [W6.size]; exact Z5
      refine g_iload X6 hx (hb hby at_157) rfl rfl ?_
      have hc159 : (0 : Int32) < v14 := hc44
      refine g_ifN X6 hx (hb hby at_159) rfl (XT.i0_le_f hc159) ?_
      refine g_aload X6 hx (hb hby at_162) rfl rfl rfl ?_
      refine g_iload X6 hx (hb hby at_164) rfl rfl ?_
      refine g_iload X6 hx (hb hby at_166) rfl rfl ?_
      have f7 : Arv Z h6 b2 ka2 .byte v14 (List.replicate 63 (.int (0 : Int32))) (.int (0 : Int32)) := (((Vn2.other W4 (Ne.symm ne_b1_b2)).other W5 (Ne.symm ne_b1_b2)).other W6 (Ne.symm ne_b1_b2))
      refine g_bastore X6 hx hZ e6 f7 (own_pr hv60 hc44 n14.2.2.1) (by simp only [List.length_set, List.length_replicate]; exact own_63 (own_pr hv60 hc44 n14.2.2.1).1 (own_pr hv60 hc44 n14.2.2.1).2 n14.2.1) (hb hby at_168) rfl fun T8 h8 X8 e8 W8 V8 => ?_
      rw [own_nar, hb115] at V8
      have Vn8 : Arv Z h8 b2 ka2 .byte v14 (List.set (List.replicate 63 (.int (0 : Int32))) (v60).toNatClampNeg (.int v115)) (.int (0 : Int32)) := V8
      have N8 := Fr.snoc X8 N6 g_b2
      have Z8 : n0 ≤ h8.size := by rw [W8.size]; exact Z6
      refine g_aload X8 hx (hb hby at_169) rfl rfl rfl ?_
      refine g_iconst X8 hx (r := (0 : Int32)) (hb hby at_171) rfl rfl ?_
      refine g_iload X8 hx (hb hby at_172) rfl rfl ?_
      refine g_bastore X8 hx hZ e8 Vn8 ⟨by decide, hc44⟩ (by simp only [List.length_set, List.length_replicate]; exact own_63 (by decide) hc44 n14.2.1) (hb hby at_174) rfl fun T9 h9 X9 e9 W9 V9 => ?_
      rw [own_nar, hb97] at V9
      have Vn9 : Arv Z h9 b2 ka2 .byte v14 (List.set (List.set (List.replicate 63 (.int (0 : Int32))) (v60).toNatClampNeg (.int v115)) ((0 : Int32)).toNatClampNeg (.int v97)) (.int (0 : Int32)) := V9
      have N9 := Fr.snoc X9 N8 g_b2
      have Z9 : n0 ≤ h9.size := by rw [W9.size]; exact Z8
      refine g_aload X9 hx (hb hby at_175) rfl rfl rfl ?_
      refine g_iload X9 hx (hb hby at_177) rfl rfl ?_
      refine g_iconst X9 hx (r := (1 : Int32)) (hb hby at_179) rfl rfl ?_
      refine g_isub X9 hx (hb hby at_180) rfl rfl ?_
      refine g_iload X9 hx (hb hby at_181) rfl rfl ?_
      refine g_bastore X9 hx hZ e9 Vn9 ⟨(own_m1 hc44).1, (own_m1 hc44).2.1⟩ (by simp only [List.length_set, List.length_replicate]; exact own_63 (own_m1 hc44).1 (own_m1 hc44).2.1 n14.2.1) (hb hby at_183) rfl fun T10 h10 X10 e10 W10 V10 => ?_
      rw [own_nar, hb106] at V10
      have Vn10 : Arv Z h10 b2 ka2 .byte v14 (List.set (List.set (List.set (List.replicate 63 (.int (0 : Int32))) (v60).toNatClampNeg (.int v115)) ((0 : Int32)).toNatClampNeg (.int v97)) ((v14 - (1 : Int32))).toNatClampNeg (.int v106)) (.int (0 : Int32)) := V10
      have N10 := Fr.snoc X10 N9 g_b2
      have Z10 : n0 ≤ h10.size := by rw [W10.size]; exact Z9
      have f12 : Arv Z h10 b1 ka1 .byte v4 (List.set (List.set (List.set (List.replicate 63 (.int (0 : Int32))) (v35).toNatClampNeg (.int v88)) ((0 : Int32)).toNatClampNeg (.int v70)) ((v4 - (1 : Int32))).toNatClampNeg (.int v79)) (.int (0 : Int32)) := (((Vn6.other W8 ne_b1_b2).other W9 ne_b1_b2).other W10 ne_b1_b2)
      refine g_new X10 hx hZ hown (hw _ (List.mem_of_getElem? (i := 2) rfl)) (hw _ (List.mem_of_getElem? (i := 3) rfl)) (hw _ (List.mem_of_getElem? (i := 4) rfl)) e10 (hb hby at_184) rfl (by decide) (by decide) fun T11 h11 b11 X11 e11 q11 E11 A11 D11 => ?_
      have ne_b1_b11 : b1 ≠ b11 := own_ne f12.lt q11
      have ne_b2_b11 : b2 ≠ b11 := own_ne Vn10.lt q11
      have g_b11 : n0 ≤ b11 := Nat.le_trans Z10 (Nat.le_of_eq q11.symm)
      have Z11 : n0 ≤ h11.size := Nat.le_trans Z10 E11.1
      have F11_bytes : Fld Z h11 b11 "com/example/glowworm/glowworm/NetlinkWriter" "bytes" "[B" .null := D11 (Or.inl (hw _ (List.mem_of_getElem? (i := 12) rfl))) (ty := (.array .byte)) (by decide)
      have F11_openNests : Fld Z h11 b11 "com/example/glowworm/glowworm/NetlinkWriter" "openNests" "Ljava/util/Deque;" .null := D11 (Or.inr (hw _ (List.mem_of_getElem? (i := 31) rfl))) (ty := (.object "java/util/Deque")) (by decide)
      have F11_length : Fld Z h11 b11 "com/example/glowworm/glowworm/NetlinkWriter" "length" "I" (.int (0 : Int32)) := D11 (Or.inl (hw _ (List.mem_of_getElem? (i := 45) rfl))) (ty := .int) (by decide)
      refine g_dup X11 hx (hb hby at_187) rfl rfl ?_
      refine g_iloadN X11 hx (hb hby at_188) rfl rfl ?_
      refine g_iloadN X11 hx (hb hby at_189) rfl rfl ?_
      refine g_iloadN X11 hx (hb hby at_190) rfl rfl ?_
      refine g_iloadN X11 hx (hb hby at_191) rfl rfl ?_
      refine g_special X11 hx hZ hown rfl (hw _ (List.mem_of_getElem? (i := 5) rfl)) (hw _ (List.mem_of_getElem? (i := 6) rfl)) (hw _ (List.mem_of_getElem? (i := 4) rfl)) (hw _ (List.mem_of_getElem? (i := 7) rfl)) (by decide) (a := b11) (rm_nini l Z a0 hw b11 p0 p1 p2 p3 h11 n0 Z11 F11_length F11_bytes F11_openNests A11 g_b11) (by rw [hml]; rfl) e11 [(.int p0), (.int p1), (.int p2), (.int p3)] rfl rfl (W := 1) (Nat.le_of_eq rfl) (by decide) (by decide) (by decide) (by decide) (lenOf pd_7 rfl) (hb hby at_192) rfl fun v13 T13 L13 X13 hQ13 => ?_
      obtain ⟨b_13, ka_13, dq_13, rfl, Nq13, kc13, p13_0, p13_1, p13_2, p13_3, p13_4, p13_5, p13_6, p13_7, p13_8, p13_9, p13_10, p13_11⟩ := hQ13
      have N13 := Fr.app N10 Nq13
      have f14 : Arv Z h11 b1 ka1 .byte v4 (List.set (List.set (List.set (List.replicate 63 (.int (0 : Int32))) (v35).toNatClampNeg (.int v88)) ((0 : Int32)).toNatClampNeg (.int v70)) ((v4 - (1 : Int32))).toNatClampNeg (.int v79)) (.int (0 : Int32)) := (f12.ext E11)
      have f15 : Arv Z h11 b2 ka2 .byte v14 (List.set (List.set (List.set (List.replicate 63 (.int (0 : Int32))) (v60).toNatClampNeg (.int v115)) ((0 : Int32)).toNatClampNeg (.int v97)) ((v14 - (1 : Int32))).toNatClampNeg (.int v106)) (.int (0 : Int32)) := (Vn10.ext E11)
      have ne_b1_b_13 : b1 ≠ b_13 := own_neK f14.lt p13_0
      have ne_b11_b_13 : b11 ≠ b_13 := own_neK A11.lt p13_0
      have ne_b2_b_13 : b2 ≠ b_13 := own_neK f15.lt p13_0
      have g_b_13 : n0 ≤ b_13 := Nat.le_trans Z11 p13_0
      have ne_b1_dq_13 : b1 ≠ dq_13 := own_neK f14.lt p13_1
      have ne_b11_dq_13 : b11 ≠ dq_13 := own_neK A11.lt p13_1
      have ne_b2_dq_13 : b2 ≠ dq_13 := own_neK f15.lt p13_1
      have g_dq_13 : n0 ≤ dq_13 := Nat.le_trans Z11 p13_1
      have Z13 : n0 ≤ T13.heap.size := Nat.le_trans Z11 kc13.1
      have pv13_10 : Arv Z T13.heap b_13 ka_13 .byte (64 : Int32) [(.int (0 : Int32)), (.int (0 : Int32)), (.int (0 : Int32)), (.int (0 : Int32)), (.int (p0.toInt8.toInt32)), (.int (((p0.toUInt32 >>> ((8 : Int32) &&& 31).toUInt32).toInt32).toInt8.toInt32)), (.int (p1.toInt8.toInt32)), (.int (((p1.toUInt32 >>> ((8 : Int32) &&& 31).toUInt32).toInt32).toInt8.toInt32)), (.int (p2.toInt8.toInt32)), (.int (((p2.toUInt32 >>> ((8 : Int32) &&& 31).toUInt32).toInt32).toInt8.toInt32)), (.int (((p2.toUInt32 >>> ((16 : Int32) &&& 31).toUInt32).toInt32).toInt8.toInt32)), (.int (((((p2.toUInt32 >>> ((16 : Int32) &&& 31).toUInt32).toInt32).toUInt32 >>> ((8 : Int32) &&& 31).toUInt32).toInt32).toInt8.toInt32)), (.int (p3.toInt8.toInt32)), (.int (((p3.toUInt32 >>> ((8 : Int32) &&& 31).toUInt32).toInt32).toInt8.toInt32)), (.int (((p3.toUInt32 >>> ((16 : Int32) &&& 31).toUInt32).toInt32).toInt8.toInt32)), (.int (((((p3.toUInt32 >>> ((16 : Int32) &&& 31).toUInt32).toInt32).toUInt32 >>> ((8 : Int32) &&& 31).toUInt32).toInt32).toInt8.toInt32)), (.int (0 : Int32)), (.int (0 : Int32)), (.int (0 : Int32)), (.int (0 : Int32)), (.int (0 : Int32)), (.int (0 : Int32)), (.int (0 : Int32)), (.int (0 : Int32)), (.int (0 : Int32)), (.int (0 : Int32)), (.int (0 : Int32)), (.int (0 : Int32)), (.int (0 : Int32)), (.int (0 : Int32)), (.int (0 : Int32)), (.int (0 : Int32)), (.int (0 : Int32)), (.int (0 : Int32)), (.int (0 : Int32)), (.int (0 : Int32)), (.int (0 : Int32)), (.int (0 : Int32)), (.int (0 : Int32)), (.int (0 : Int32)), (.int (0 : Int32)), (.int (0 : Int32)), (.int (0 : Int32)), (.int (0 : Int32)), (.int (0 : Int32)), (.int (0 : Int32)), (.int (0 : Int32)), (.int (0 : Int32)), (.int (0 : Int32)), (.int (0 : Int32)), (.int (0 : Int32)), (.int (0 : Int32)), (.int (0 : Int32)), (.int (0 : Int32)), (.int (0 : Int32)), (.int (0 : Int32)), (.int (0 : Int32)), (.int (0 : Int32)), (.int (0 : Int32)), (.int (0 : Int32)), (.int (0 : Int32)), (.int (0 : Int32)), (.int (0 : Int32)), (.int (0 : Int32))] (.int (0 : Int32)) := p13_10
      show Ga _ _ _ _ _ _ _ _ _ _ _ [(.ref b11)]
      refine g_astore X13 hx (Ls' := #[.val (.int p0), .val (.int p1), .val (.int p2), .val (.int p3), .val (.long p4), .second, .val (.int p5), .val (.int v4), .val (.int v14), .val (.int v35), .val (.int v60), .val (.int v70), .val (.int v79), .val (.int v88), .val (.int v97), .val (.int v106), .val (.int v115), .val (.ref b1), .val (.ref b2), .val (.ref b11), .unset, .unset, .unset, .unset, .unset, .unset]) (hb hby at_195) rfl rfl rfl ?_
      refine g_aload X13 hx (hb hby at_197) rfl rfl rfl ?_
      refine g_aload X13 hx (hb hby at_199) rfl rfl rfl ?_
      have hC16 : ∀ j, j < (16 : Int32).toNatClampNeg → ([(.int (0 : Int32)), (.int (0 : Int32)), (.int (0 : Int32)), (.int (0 : Int32)), (.int (p0.toInt8.toInt32)), (.int (((p0.toUInt32 >>> ((8 : Int32) &&& 31).toUInt32).toInt32).toInt8.toInt32)), (.int (p1.toInt8.toInt32)), (.int (((p1.toUInt32 >>> ((8 : Int32) &&& 31).toUInt32).toInt32).toInt8.toInt32)), (.int (p2.toInt8.toInt32)), (.int (((p2.toUInt32 >>> ((8 : Int32) &&& 31).toUInt32).toInt32).toInt8.toInt32)), (.int (((p2.toUInt32 >>> ((16 : Int32) &&& 31).toUInt32).toInt32).toInt8.toInt32)), (.int (((((p2.toUInt32 >>> ((16 : Int32) &&& 31).toUInt32).toInt32).toUInt32 >>> ((8 : Int32) &&& 31).toUInt32).toInt32).toInt8.toInt32)), (.int (p3.toInt8.toInt32)), (.int (((p3.toUInt32 >>> ((8 : Int32) &&& 31).toUInt32).toInt32).toInt8.toInt32)), (.int (((p3.toUInt32 >>> ((16 : Int32) &&& 31).toUInt32).toInt32).toInt8.toInt32)), (.int (((((p3.toUInt32 >>> ((16 : Int32) &&& 31).toUInt32).toInt32).toUInt32 >>> ((8 : Int32) &&& 31).toUInt32).toInt32).toInt8.toInt32)), (.int (0 : Int32)), (.int (0 : Int32)), (.int (0 : Int32)), (.int (0 : Int32)), (.int (0 : Int32)), (.int (0 : Int32)), (.int (0 : Int32)), (.int (0 : Int32)), (.int (0 : Int32)), (.int (0 : Int32)), (.int (0 : Int32)), (.int (0 : Int32)), (.int (0 : Int32)), (.int (0 : Int32)), (.int (0 : Int32)), (.int (0 : Int32)), (.int (0 : Int32)), (.int (0 : Int32)), (.int (0 : Int32)), (.int (0 : Int32)), (.int (0 : Int32)), (.int (0 : Int32)), (.int (0 : Int32)), (.int (0 : Int32)), (.int (0 : Int32)), (.int (0 : Int32)), (.int (0 : Int32)), (.int (0 : Int32)), (.int (0 : Int32)), (.int (0 : Int32)), (.int (0 : Int32)), (.int (0 : Int32)), (.int (0 : Int32)), (.int (0 : Int32)), (.int (0 : Int32)), (.int (0 : Int32)), (.int (0 : Int32)), (.int (0 : Int32)), (.int (0 : Int32)), (.int (0 : Int32)), (.int (0 : Int32)), (.int (0 : Int32)), (.int (0 : Int32)), (.int (0 : Int32)), (.int (0 : Int32)), (.int (0 : Int32)), (.int (0 : Int32)), (.int (0 : Int32))] : List Value).getD j (.int (0 : Int32)) = .int ((own_G p0 p1 p2 p3 (fun j => own_abN j v4.toNatClampNeg v35.toNatClampNeg v70 v79 v88) (fun j => own_abN j v14.toNatClampNeg v60.toNatClampNeg v97 v106 v115) v4.toNatClampNeg) j) := fun j hj => match j, hj with | 0, _ => rfl | 1, _ => rfl | 2, _ => rfl | 3, _ => rfl | 4, _ => rfl | 5, _ => rfl | 6, _ => rfl | 7, _ => rfl | 8, _ => rfl | 9, _ => rfl | 10, _ => rfl | 11, _ => rfl | 12, _ => rfl | 13, _ => rfl | 14, _ => rfl | 15, _ => rfl | j + 16, hj => absurd hj (by simp [show (16 : Int32).toNatClampNeg = 16 from rfl])
      have f17 : Arv Z T13.heap b1 ka1 .byte v4 (List.set (List.set (List.set (List.replicate 63 (.int (0 : Int32))) (v35).toNatClampNeg (.int v88)) ((0 : Int32)).toNatClampNeg (.int v70)) ((v4 - (1 : Int32))).toNatClampNeg (.int v79)) (.int (0 : Int32)) := (f14.keep kc13 (ninS ne_b1_b11 nin0))
      refine g_virtual X13 hx hZ hown (hw _ (List.mem_of_getElem? (i := 46) rfl)) (hw _ (List.mem_of_getElem? (i := 47) rfl)) (notFace_of_selects (args := #[]) (mvT hZ (hw _ (List.mem_of_getElem? (i := 49) rfl)))) (hw _ (List.mem_of_getElem? (i := 49) rfl)) (hw _ (List.mem_of_getElem? (i := 48) rfl)) (hw _ (List.mem_of_getElem? (i := 4) rfl)) (hw _ (List.mem_of_getElem? (i := 50) rfl)) (by decide) (a := b11) p13_3 (rm_raw l Z a0 hw b11 b1 ka1 (List.set (List.set (List.set (List.replicate 63 (.int (0 : Int32))) (v35).toNatClampNeg (.int v88)) ((0 : Int32)).toNatClampNeg (.int v70)) ((v4 - (1 : Int32))).toNatClampNeg (.int v79)) v4 b_13 ka_13 dq_13 (64 : Int32) (16 : Int32) [(.int (0 : Int32)), (.int (0 : Int32)), (.int (0 : Int32)), (.int (0 : Int32)), (.int (p0.toInt8.toInt32)), (.int (((p0.toUInt32 >>> ((8 : Int32) &&& 31).toUInt32).toInt32).toInt8.toInt32)), (.int (p1.toInt8.toInt32)), (.int (((p1.toUInt32 >>> ((8 : Int32) &&& 31).toUInt32).toInt32).toInt8.toInt32)), (.int (p2.toInt8.toInt32)), (.int (((p2.toUInt32 >>> ((8 : Int32) &&& 31).toUInt32).toInt32).toInt8.toInt32)), (.int (((p2.toUInt32 >>> ((16 : Int32) &&& 31).toUInt32).toInt32).toInt8.toInt32)), (.int (((((p2.toUInt32 >>> ((16 : Int32) &&& 31).toUInt32).toInt32).toUInt32 >>> ((8 : Int32) &&& 31).toUInt32).toInt32).toInt8.toInt32)), (.int (p3.toInt8.toInt32)), (.int (((p3.toUInt32 >>> ((8 : Int32) &&& 31).toUInt32).toInt32).toInt8.toInt32)), (.int (((p3.toUInt32 >>> ((16 : Int32) &&& 31).toUInt32).toInt32).toInt8.toInt32)), (.int (((((p3.toUInt32 >>> ((16 : Int32) &&& 31).toUInt32).toInt32).toUInt32 >>> ((8 : Int32) &&& 31).toUInt32).toInt32).toInt8.toInt32)), (.int (0 : Int32)), (.int (0 : Int32)), (.int (0 : Int32)), (.int (0 : Int32)), (.int (0 : Int32)), (.int (0 : Int32)), (.int (0 : Int32)), (.int (0 : Int32)), (.int (0 : Int32)), (.int (0 : Int32)), (.int (0 : Int32)), (.int (0 : Int32)), (.int (0 : Int32)), (.int (0 : Int32)), (.int (0 : Int32)), (.int (0 : Int32)), (.int (0 : Int32)), (.int (0 : Int32)), (.int (0 : Int32)), (.int (0 : Int32)), (.int (0 : Int32)), (.int (0 : Int32)), (.int (0 : Int32)), (.int (0 : Int32)), (.int (0 : Int32)), (.int (0 : Int32)), (.int (0 : Int32)), (.int (0 : Int32)), (.int (0 : Int32)), (.int (0 : Int32)), (.int (0 : Int32)), (.int (0 : Int32)), (.int (0 : Int32)), (.int (0 : Int32)), (.int (0 : Int32)), (.int (0 : Int32)), (.int (0 : Int32)), (.int (0 : Int32)), (.int (0 : Int32)), (.int (0 : Int32)), (.int (0 : Int32)), (.int (0 : Int32)), (.int (0 : Int32)), (.int (0 : Int32)), (.int (0 : Int32)), (.int (0 : Int32)), (.int (0 : Int32)), (.int (0 : Int32))] (own_G p0 p1 p2 p3 (fun j => own_abN j v4.toNatClampNeg v35.toNatClampNeg v70 v79 v88) (fun j => own_abN j v14.toNatClampNeg v60.toNatClampNeg v97 v106 v115) v4.toNatClampNeg) T13.heap n0 Z13 p13_7 p13_8 p13_9 pv13_10 f17 p13_3 p13_11 g_b11 g_b_13 ne_b11_b_13 ne_b1_b11 ne_b1_b_13 hGb (by decide) n4.1 (by have q := n4.2.2.1; have e : (16 : Int32).toInt = 16 := rfl; omega) (⟨rfl, by decide, by decide, Or.inl ⟨rfl, rfl, rfl⟩⟩) hC16 (own_P1 (own_arr hc19 n4.2.1 (own_pr hv35 hc19 n4.2.2.1).1 (own_pr hv35 hc19 n4.2.2.1).2))) (by rw [hml]; rfl) rfl [(.ref b1)] rfl rfl (W := 0) (Nat.le_of_eq rfl) (by decide) (by decide) (by decide) (by decide) (lenOf pd_8 rfl) (hb hby at_201) rfl fun v16 T16 L16 X16 hQ16 => ?_
      obtain ⟨b2_16, k2_16, z2_16, v2_16, rfl, Nq16, kc16, p16_0, p16_1, p16_2, p16_3, p16_4, p16_5, p16_6, p16_7, p16_8, p16_9⟩ := hQ16
      have N16 := Fr.app N13 Nq16
      have f18 : Arv Z T13.heap b2 ka2 .byte v14 (List.set (List.set (List.set (List.replicate 63 (.int (0 : Int32))) (v60).toNatClampNeg (.int v115)) ((0 : Int32)).toNatClampNeg (.int v97)) ((v14 - (1 : Int32))).toNatClampNeg (.int v106)) (.int (0 : Int32)) := (f15.keep kc13 (ninS ne_b2_b11 nin0))
      have ne_b1_b2_16 : b1 ≠ b2_16 := own_nb p16_0 f17.lt ne_b1_b_13
      have ne_b11_b2_16 : b11 ≠ b2_16 := own_nb p16_0 p13_3.lt ne_b11_b_13
      have ne_b2_b2_16 : b2 ≠ b2_16 := own_nb p16_0 f18.lt ne_b2_b_13
      have ne_dq_13_b2_16 : dq_13 ≠ b2_16 := own_nb p16_0 p13_4.lt (Ne.symm p13_2)
      have g_b2_16 : n0 ≤ b2_16 := own_ng p16_0 g_b_13 Z13
      have Z16 : n0 ≤ T16.heap.size := Nat.le_trans Z13 kc16.1
      have hrm2_16 := p16_8
      have hC2_16 := p16_9
      show Ga _ _ _ _ _ _ _ _ _ _ _ [(.ref b11)]
      refine g_astore X16 hx (Ls' := #[.val (.int p0), .val (.int p1), .val (.int p2), .val (.int p3), .val (.long p4), .second, .val (.int p5), .val (.int v4), .val (.int v14), .val (.int v35), .val (.int v60), .val (.int v70), .val (.int v79), .val (.int v88), .val (.int v97), .val (.int v106), .val (.int v115), .val (.ref b1), .val (.ref b2), .val (.ref b11), .val (.ref b11), .unset, .unset, .unset, .unset, .unset]) (hb hby at_204) rfl rfl rfl ?_
      refine g_aload X16 hx (hb hby at_206) rfl rfl rfl ?_
      refine g_aload X16 hx (hb hby at_208) rfl rfl rfl ?_
      have f20 : Arv Z T16.heap b2 ka2 .byte v14 (List.set (List.set (List.set (List.replicate 63 (.int (0 : Int32))) (v60).toNatClampNeg (.int v115)) ((0 : Int32)).toNatClampNeg (.int v97)) ((v14 - (1 : Int32))).toNatClampNeg (.int v106)) (.int (0 : Int32)) := (f18.keep kc16 (ninS ne_b2_b11 (ninS ne_b2_b_13 nin0)))
      refine g_virtual X16 hx hZ hown (hw _ (List.mem_of_getElem? (i := 46) rfl)) (hw _ (List.mem_of_getElem? (i := 47) rfl)) (notFace_of_selects (args := #[]) (mvT hZ (hw _ (List.mem_of_getElem? (i := 49) rfl)))) (hw _ (List.mem_of_getElem? (i := 49) rfl)) (hw _ (List.mem_of_getElem? (i := 48) rfl)) (hw _ (List.mem_of_getElem? (i := 4) rfl)) (hw _ (List.mem_of_getElem? (i := 50) rfl)) (by decide) (a := b11) p16_1 (rm_raw l Z a0 hw b11 b2 ka2 (List.set (List.set (List.set (List.replicate 63 (.int (0 : Int32))) (v60).toNatClampNeg (.int v115)) ((0 : Int32)).toNatClampNeg (.int v97)) ((v14 - (1 : Int32))).toNatClampNeg (.int v106)) v14 b2_16 k2_16 dq_13 z2_16 ((16 : Int32) + v4) v2_16 (own_G p0 p1 p2 p3 (fun j => own_abN j v4.toNatClampNeg v35.toNatClampNeg v70 v79 v88) (fun j => own_abN j v14.toNatClampNeg v60.toNatClampNeg v97 v106 v115) v4.toNatClampNeg) T16.heap n0 Z16 p16_3 p16_4 p16_5 p16_6 f20 p16_1 p16_2 g_b11 g_b2_16 p16_7 ne_b2_b11 ne_b2_b2_16 hGb ((own_1617 n4.2.2.2.1 n4.2.2.1).2.1) n14.1 (by rw [(own_1617 n4.2.2.2.1 n4.2.2.1).1]; have q := n14.2.2.1; have r := n4.2.2.1; omega) (own_RM0 hrm2_16) hC2_16 (own_P2 n4.2.2.2.1 n4.2.2.1 (own_arr hc44 n14.2.1 (own_pr hv60 hc44 n14.2.2.1).1 (own_pr hv60 hc44 n14.2.2.1).2))) (by rw [hml]; rfl) rfl [(.ref b2)] rfl rfl (W := 0) (Nat.le_of_eq rfl) (by decide) (by decide) (by decide) (by decide) (lenOf pd_8 rfl) (hb hby at_210) rfl fun v19 T19 L19 X19 hQ19 => ?_
      obtain ⟨b2_19, k2_19, z2_19, v2_19, rfl, Nq19, kc19, p19_0, p19_1, p19_2, p19_3, p19_4, p19_5, p19_6, p19_7, p19_8, p19_9⟩ := hQ19
      have N19 := Fr.app N16 Nq19
      have f21 : Arv Z T16.heap b1 ka1 .byte v4 (List.set (List.set (List.set (List.replicate 63 (.int (0 : Int32))) (v35).toNatClampNeg (.int v88)) ((0 : Int32)).toNatClampNeg (.int v70)) ((v4 - (1 : Int32))).toNatClampNeg (.int v79)) (.int (0 : Int32)) := (f17.keep kc16 (ninS ne_b1_b11 (ninS ne_b1_b_13 nin0)))
      have f22 : Exa Z T16.heap b_13 "[B" := (p13_11.keep kc16)
      have f23 : Exa Z T16.heap dq_13 "java/util/ArrayDeque" := (p13_4.keep kc16)
      have ne_b1_b2_19 : b1 ≠ b2_19 := own_nb p19_0 f21.lt ne_b1_b2_16
      have ne_b11_b2_19 : b11 ≠ b2_19 := own_nb p19_0 p16_1.lt p16_7
      have ne_b2_b2_19 : b2 ≠ b2_19 := own_nb p19_0 f20.lt ne_b2_b2_16
      have ne_dq_13_b2_19 : dq_13 ≠ b2_19 := own_nb p19_0 f23.lt ne_dq_13_b2_16
      have g_b2_19 : n0 ≤ b2_19 := own_ng p19_0 g_b2_16 Z16
      have Z19 : n0 ≤ T19.heap.size := Nat.le_trans Z16 kc19.1
      have hrm2_19 := p19_8
      have hC2_19 := p19_9
      show Ga _ _ _ _ _ _ _ _ _ _ _ [(.ref b11)]
      refine g_astore X19 hx (Ls' := #[.val (.int p0), .val (.int p1), .val (.int p2), .val (.int p3), .val (.long p4), .second, .val (.int p5), .val (.int v4), .val (.int v14), .val (.int v35), .val (.int v60), .val (.int v70), .val (.int v79), .val (.int v88), .val (.int v97), .val (.int v106), .val (.int v115), .val (.ref b1), .val (.ref b2), .val (.ref b11), .val (.ref b11), .val (.ref b11), .unset, .unset, .unset, .unset]) (hb hby at_213) rfl rfl rfl ?_
      refine g_aload X19 hx (hb hby at_215) rfl rfl rfl ?_
      have f25 : Exa Z T19.heap dq_13 "java/util/ArrayDeque" := (f23.keep kc19)
      have f26 : Fld Z T19.heap dq_13 "java/util/ArrayDeque" "head" "I" (.int (0 : Int32)) := ((p13_5.keep kc16 (ninS (Ne.symm ne_b11_dq_13) (ninS (Ne.symm p13_2) nin0))).keep kc19 (ninS (Ne.symm ne_b11_dq_13) (ninS ne_dq_13_b2_16 nin0)))
      have f27 : Fld Z T19.heap dq_13 "java/util/ArrayDeque" "tail" "I" (.int (0 : Int32)) := ((p13_6.keep kc16 (ninS (Ne.symm ne_b11_dq_13) (ninS (Ne.symm p13_2) nin0))).keep kc19 (ninS (Ne.symm ne_b11_dq_13) (ninS ne_dq_13_b2_16 nin0)))
      refine g_virtual X19 hx hZ hown (hw _ (List.mem_of_getElem? (i := 51) rfl)) (hw _ (List.mem_of_getElem? (i := 52) rfl)) (notFace_of_selects (args := #[]) (mvT hZ (hw _ (List.mem_of_getElem? (i := 54) rfl)))) (hw _ (List.mem_of_getElem? (i := 54) rfl)) (hw _ (List.mem_of_getElem? (i := 53) rfl)) (hw _ (List.mem_of_getElem? (i := 4) rfl)) (hw _ (List.mem_of_getElem? (i := 55) rfl)) (by decide) (a := b11) p19_1 (rm_tobytes l Z a0 hw b11 b2_19 dq_13 k2_19 v2_19 z2_19 (((16 : Int32) + v4) + v14) (own_G p0 p1 p2 p3 (fun j => own_abN j v4.toNatClampNeg v35.toNatClampNeg v70 v79 v88) (fun j => own_abN j v14.toNatClampNeg v60.toNatClampNeg v97 v106 v115) v4.toNatClampNeg) T19.heap n0 Z19 p19_3 p19_4 p19_5 p19_6 p19_1 p19_2 g_b2_19 p19_7 f25 f26 f27 htt.2 hrm2_19 hC2_19) (by rw [hml]; rfl) rfl [] rfl rfl (W := 0) (Nat.le_of_eq rfl) (by decide) (by decide) (by decide) (by decide) (lenOf pd_9 rfl) (hb hby at_217) rfl fun v24 T24 L24 X24 hQ24 => ?_
      obtain ⟨d_24, kd_24, ds_24, rfl, Nq24, kc24, p24_0, p24_1, p24_2⟩ := hQ24
      have N24 := Fr.app N19 Nq24
      have f28 : Arv Z T19.heap b1 ka1 .byte v4 (List.set (List.set (List.set (List.replicate 63 (.int (0 : Int32))) (v35).toNatClampNeg (.int v88)) ((0 : Int32)).toNatClampNeg (.int v70)) ((v4 - (1 : Int32))).toNatClampNeg (.int v79)) (.int (0 : Int32)) := (f21.keep kc19 (ninS ne_b1_b11 (ninS ne_b1_b2_16 nin0)))
      have f29 : Arv Z T19.heap b2 ka2 .byte v14 (List.set (List.set (List.set (List.replicate 63 (.int (0 : Int32))) (v60).toNatClampNeg (.int v115)) ((0 : Int32)).toNatClampNeg (.int v97)) ((v14 - (1 : Int32))).toNatClampNeg (.int v106)) (.int (0 : Int32)) := (f20.keep kc19 (ninS ne_b2_b11 (ninS ne_b2_b2_16 nin0)))
      have f30 : Exa Z T19.heap b2_16 "[B" := (p16_2.keep kc19)
      have f31 : Exa Z T19.heap b_13 "[B" := (f22.keep kc19)
      have ne_b1_d_24 : b1 ≠ d_24 := own_neK f28.lt p24_0
      have ne_b11_d_24 : b11 ≠ d_24 := own_neK p19_1.lt p24_0
      have ne_b2_d_24 : b2 ≠ d_24 := own_neK f29.lt p24_0
      have ne_b2_16_d_24 : b2_16 ≠ d_24 := own_neK f30.lt p24_0
      have ne_b2_19_d_24 : b2_19 ≠ d_24 := own_neK p19_2.lt p24_0
      have ne_b_13_d_24 : b_13 ≠ d_24 := own_neK f31.lt p24_0
      have ne_dq_13_d_24 : dq_13 ≠ d_24 := own_neK f25.lt p24_0
      have g_d_24 : n0 ≤ d_24 := Nat.le_trans Z19 p24_0
      have Z24 : n0 ≤ T24.heap.size := Nat.le_trans Z19 kc24.1
      have hdg_24 := p24_2
      show Ga _ _ _ _ _ _ _ _ _ _ _ [(.ref d_24)]
      refine g_astore X24 hx (Ls' := #[.val (.int p0), .val (.int p1), .val (.int p2), .val (.int p3), .val (.long p4), .second, .val (.int p5), .val (.int v4), .val (.int v14), .val (.int v35), .val (.int v60), .val (.int v70), .val (.int v79), .val (.int v88), .val (.int v97), .val (.int v106), .val (.int v115), .val (.ref b1), .val (.ref b2), .val (.ref b11), .val (.ref b11), .val (.ref b11), .val (.ref d_24), .unset, .unset, .unset]) (hb hby at_220) rfl rfl rfl ?_
      refine g_bipush X24 hx (r := (16 : Int32)) (hb hby at_222) rfl rfl ?_
      refine g_iload X24 hx (hb hby at_224) rfl rfl ?_
      refine g_iadd X24 hx (hb hby at_226) rfl rfl ?_
      refine g_iload X24 hx (hb hby at_227) rfl rfl ?_
      refine g_iadd X24 hx (hb hby at_229) rfl rfl ?_
      refine g_istore X24 hx (Ls' := #[.val (.int p0), .val (.int p1), .val (.int p2), .val (.int p3), .val (.long p4), .second, .val (.int p5), .val (.int v4), .val (.int v14), .val (.int v35), .val (.int v60), .val (.int v70), .val (.int v79), .val (.int v88), .val (.int v97), .val (.int v106), .val (.int v115), .val (.ref b1), .val (.ref b2), .val (.ref b11), .val (.ref b11), .val (.ref b11), .val (.ref d_24), .val (.int (((16 : Int32) + v4) + v14)), .unset, .unset]) (hb hby at_230) rfl rfl ?_
      refine g_aload X24 hx (hb hby at_232) rfl rfl rfl ?_
      refine g_aload X24 hx (hb hby at_234) rfl rfl rfl ?_
      refine g_acmp X24 hx (q := 239) (same := true) (hb hby at_236) rfl rfl (decide_eq_true rfl) (by decide) (by decide) ?_
      refine g_aload X24 hx (hb hby at_239) rfl rfl rfl ?_
      refine g_aload X24 hx (hb hby at_241) rfl rfl rfl ?_
      refine g_acmp X24 hx (q := 248) (same := true) (hb hby at_243) rfl rfl (decide_eq_true rfl) (by decide) (by decide) ?_
      refine g_aload X24 hx (hb hby at_248) rfl rfl rfl ?_
      refine g_len X24 hx hZ rfl p24_1 (hb hby at_250) rfl ?_
      refine g_iload X24 hx (hb hby at_251) rfl rfl ?_
      refine g_icmpY X24 hx (q := 258) (hb hby at_253) (XT.ii_eq_t rfl) (by decide) (by decide) ?_
      refine g_iload X24 hx (hb hby at_258) rfl rfl ?_
      refine g_bipush X24 hx (r := (12 : Int32)) (hb hby at_260) rfl rfl ?_
      refine g_iushr X24 hx (hb hby at_262) rfl rfl ?_
      refine g_iload X24 hx (hb hby at_263) rfl rfl ?_
      obtain ⟨v265, hv265⟩ : ∃ r, (((p5.toUInt32 >>> ((12 : Int32) &&& 31).toUInt32).toInt32) % (((16 : Int32) + v4) + v14)) = r := ⟨_, rfl⟩
      refine g_irem X24 hx (hb hby at_265) rfl (own_nzt htot) hv265 ?_
      refine g_istore X24 hx (Ls' := #[.val (.int p0), .val (.int p1), .val (.int p2), .val (.int p3), .val (.long p4), .second, .val (.int p5), .val (.int v4), .val (.int v14), .val (.int v35), .val (.int v60), .val (.int v70), .val (.int v79), .val (.int v88), .val (.int v97), .val (.int v106), .val (.int v115), .val (.ref b1), .val (.ref b2), .val (.ref b11), .val (.ref b11), .val (.ref b11), .val (.ref d_24), .val (.int (((16 : Int32) + v4) + v14)), .val (.int v265), .unset]) (hb hby at_266) rfl rfl ?_
      refine g_iload X24 hx (hb hby at_268) rfl rfl ?_
      refine g_bipush X24 hx (r := (16 : Int32)) (hb hby at_270) rfl rfl ?_
      by_cases hc272 : v265 < (16 : Int32)
      · skip
        refine g_icmpN X24 hx (hb hby at_272) rfl (XT.ii_ge_f hc272) ?_
        refine g_iload X24 hx (hb hby at_275) rfl rfl ?_
        refine g_iload X24 hx (hb hby at_277) rfl rfl ?_
        refine g_iloadN X24 hx (hb hby at_279) rfl rfl ?_
        refine g_iloadN X24 hx (hb hby at_280) rfl rfl ?_
        refine g_iloadN X24 hx (hb hby at_281) rfl rfl ?_
        refine g_iloadN X24 hx (hb hby at_282) rfl rfl ?_
        refine g_static X24 hx hZ hown (hw _ (List.mem_of_getElem? (i := 85) rfl)) (hw _ (List.mem_of_getElem? (i := 86) rfl)) (hw _ (List.mem_of_getElem? (i := 87) rfl)) (hw _ (List.mem_of_getElem? (i := 88) rfl)) (by decide) (rm_hdb l Z a0 hw v265 (((16 : Int32) + v4) + v14) p0 p1 p2 p3 T24.heap n0 Z24) (by rw [hml]; rfl) rfl [(.int v265), (.int (((16 : Int32) + v4) + v14)), (.int p0), (.int p1), (.int p2), (.int p3)] rfl rfl (W := 0) (Nat.le_of_eq rfl) (by decide) (by decide) (by decide) (by decide) (lenOf pd_10 rfl) (hb hby at_283) rfl fun v32 T32 L32 X32 hQ32 => ?_
        obtain ⟨rfl, Nq32, eh32⟩ := hQ32
        have N32 := Fr.app N24 Nq32
        show Ga _ _ _ _ _ _ _ _ _ _ _ [(.int (own_hb v265 (((16 : Int32) + v4) + v14) p0 p1 p2 p3))]
        refine g_istore X32 hx (Ls' := #[.val (.int p0), .val (.int p1), .val (.int p2), .val (.int p3), .val (.long p4), .second, .val (.int p5), .val (.int v4), .val (.int v14), .val (.int v35), .val (.int v60), .val (.int v70), .val (.int v79), .val (.int v88), .val (.int v97), .val (.int v106), .val (.int v115), .val (.ref b1), .val (.ref b2), .val (.ref b11), .val (.ref b11), .val (.ref b11), .val (.ref d_24), .val (.int (((16 : Int32) + v4) + v14)), .val (.int v265), .val (.int (own_hb v265 (((16 : Int32) + v4) + v14) p0 p1 p2 p3))]) (hb hby at_286) rfl rfl ?_
        refine g_goto X32 hx (q := 347) (hb hby at_288) (by decide) (by decide) ?_
        refine g_aload X32 hx (hb hby at_347) rfl rfl rfl ?_
        refine g_iload X32 hx (hb hby at_349) rfl rfl ?_
        refine g_baload X32 hx hZ eh32 p24_1 (v := (.int (own_T (((16 : Int32) + v4) + v14) (own_G p0 p1 p2 p3 (fun j => own_abN j v4.toNatClampNeg v35.toNatClampNeg v70 v79 v88) (fun j => own_abN j v14.toNatClampNeg v60.toNatClampNeg v97 v106 v115) v4.toNatClampNeg) v265.toNatClampNeg))) (own_kr hv265 htot) (hdg_24 _ (own_nat (own_kr hv265 htot).1 (own_kr hv265 htot).2)) (hb hby at_351) rfl ?_
        refine g_iload X32 hx (hb hby at_352) rfl rfl ?_
        have hc354 : (own_T (((16 : Int32) + v4) + v14) (own_G p0 p1 p2 p3 (fun j => own_abN j v4.toNatClampNeg v35.toNatClampNeg v70 v79 v88) (fun j => own_abN j v14.toNatClampNeg v60.toNatClampNeg v97 v106 v115) v4.toNatClampNeg) v265.toNatClampNeg) = (own_hb v265 (((16 : Int32) + v4) + v14) p0 p1 p2 p3) := own_fin1 (own_kr hv265 htot).1 hc272
        refine g_icmpN X32 hx (hb hby at_354) rfl (XT.ii_ne_f hc354) ?_
        refine g_iconst X32 hx (r := (1 : Int32)) (hb hby at_357) rfl rfl ?_
        refine g_goto X32 hx (q := 362) (hb hby at_358) (by decide) (by decide) ?_
        exact g_retN X32 hx (t := .boolean) (r := (1 : Int32)) hret (by simp) hlk (hb hby at_362) rfl (by decide) (by decide) (by rw [eh32]; exact ⟨rfl, N32⟩)
      · skip
        refine g_icmpY X24 hx (q := 291) (hb hby at_272) (XT.ii_ge_t hc272) (by decide) (by decide) ?_
        refine g_iload X24 hx (hb hby at_291) rfl rfl ?_
        refine g_bipush X24 hx (r := (16 : Int32)) (hb hby at_293) rfl rfl ?_
        refine g_iload X24 hx (hb hby at_295) rfl rfl ?_
        refine g_iadd X24 hx (hb hby at_297) rfl rfl ?_
        by_cases hc298 : v265 < ((16 : Int32) + v4)
        · skip
          refine g_icmpN X24 hx (hb hby at_298) rfl (XT.ii_ge_f hc298) ?_
          refine g_iload X24 hx (hb hby at_301) rfl rfl ?_
          refine g_bipush X24 hx (r := (16 : Int32)) (hb hby at_303) rfl rfl ?_
          refine g_isub X24 hx (hb hby at_305) rfl rfl ?_
          refine g_iload X24 hx (hb hby at_306) rfl rfl ?_
          refine g_iload X24 hx (hb hby at_308) rfl rfl ?_
          refine g_iload X24 hx (hb hby at_310) rfl rfl ?_
          refine g_iload X24 hx (hb hby at_312) rfl rfl ?_
          refine g_iload X24 hx (hb hby at_314) rfl rfl ?_
          refine g_static X24 hx hZ hown (hw _ (List.mem_of_getElem? (i := 89) rfl)) (hw _ (List.mem_of_getElem? (i := 90) rfl)) (hw _ (List.mem_of_getElem? (i := 87) rfl)) (hw _ (List.mem_of_getElem? (i := 91) rfl)) (by decide) (rm_arb l Z a0 hw (v265 - (16 : Int32)) v4 v35 v70 v79 v88 T24.heap n0 Z24 hb70 hb79 hb88) (by rw [hml]; rfl) rfl [(.int (v265 - (16 : Int32))), (.int v4), (.int v35), (.int v70), (.int v79), (.int v88)] rfl rfl (W := 0) (Nat.le_of_eq rfl) (by decide) (by decide) (by decide) (by decide) (lenOf pd_11 rfl) (hb hby at_316) rfl fun v33 T33 L33 X33 hQ33 => ?_
          obtain ⟨rfl, Nq33, eh33⟩ := hQ33
          have N33 := Fr.app N24 Nq33
          show Ga _ _ _ _ _ _ _ _ _ _ _ [(.int (own_ab (v265 - (16 : Int32)) v4 v35 v70 v79 v88))]
          refine g_istore X33 hx (Ls' := #[.val (.int p0), .val (.int p1), .val (.int p2), .val (.int p3), .val (.long p4), .second, .val (.int p5), .val (.int v4), .val (.int v14), .val (.int v35), .val (.int v60), .val (.int v70), .val (.int v79), .val (.int v88), .val (.int v97), .val (.int v106), .val (.int v115), .val (.ref b1), .val (.ref b2), .val (.ref b11), .val (.ref b11), .val (.ref b11), .val (.ref d_24), .val (.int (((16 : Int32) + v4) + v14)), .val (.int v265), .val (.int (own_ab (v265 - (16 : Int32)) v4 v35 v70 v79 v88))]) (hb hby at_319) rfl rfl ?_
          refine g_goto X33 hx (q := 347) (hb hby at_321) (by decide) (by decide) ?_
          refine g_aload X33 hx (hb hby at_347) rfl rfl rfl ?_
          refine g_iload X33 hx (hb hby at_349) rfl rfl ?_
          refine g_baload X33 hx hZ eh33 p24_1 (v := (.int (own_T (((16 : Int32) + v4) + v14) (own_G p0 p1 p2 p3 (fun j => own_abN j v4.toNatClampNeg v35.toNatClampNeg v70 v79 v88) (fun j => own_abN j v14.toNatClampNeg v60.toNatClampNeg v97 v106 v115) v4.toNatClampNeg) v265.toNatClampNeg))) (own_kr hv265 htot) (hdg_24 _ (own_nat (own_kr hv265 htot).1 (own_kr hv265 htot).2)) (hb hby at_351) rfl ?_
          refine g_iload X33 hx (hb hby at_352) rfl rfl ?_
          have hc354 : (own_T (((16 : Int32) + v4) + v14) (own_G p0 p1 p2 p3 (fun j => own_abN j v4.toNatClampNeg v35.toNatClampNeg v70 v79 v88) (fun j => own_abN j v14.toNatClampNeg v60.toNatClampNeg v97 v106 v115) v4.toNatClampNeg) v265.toNatClampNeg) = (own_ab (v265 - (16 : Int32)) v4 v35 v70 v79 v88) := own_fin2 hc272 hc298 n4.2.2.2.1 n4.2.2.1 (own_pr hv35 hc19 n4.2.2.1).1
          refine g_icmpN X33 hx (hb hby at_354) rfl (XT.ii_ne_f hc354) ?_
          refine g_iconst X33 hx (r := (1 : Int32)) (hb hby at_357) rfl rfl ?_
          refine g_goto X33 hx (q := 362) (hb hby at_358) (by decide) (by decide) ?_
          exact g_retN X33 hx (t := .boolean) (r := (1 : Int32)) hret (by simp) hlk (hb hby at_362) rfl (by decide) (by decide) (by rw [eh33]; exact ⟨rfl, N33⟩)
        · skip
          refine g_icmpY X24 hx (q := 324) (hb hby at_298) (XT.ii_ge_t hc298) (by decide) (by decide) ?_
          refine g_iload X24 hx (hb hby at_324) rfl rfl ?_
          refine g_bipush X24 hx (r := (16 : Int32)) (hb hby at_326) rfl rfl ?_
          refine g_isub X24 hx (hb hby at_328) rfl rfl ?_
          refine g_iload X24 hx (hb hby at_329) rfl rfl ?_
          refine g_isub X24 hx (hb hby at_331) rfl rfl ?_
          refine g_iload X24 hx (hb hby at_332) rfl rfl ?_
          refine g_iload X24 hx (hb hby at_334) rfl rfl ?_
          refine g_iload X24 hx (hb hby at_336) rfl rfl ?_
          refine g_iload X24 hx (hb hby at_338) rfl rfl ?_
          refine g_iload X24 hx (hb hby at_340) rfl rfl ?_
          refine g_static X24 hx hZ hown (hw _ (List.mem_of_getElem? (i := 89) rfl)) (hw _ (List.mem_of_getElem? (i := 90) rfl)) (hw _ (List.mem_of_getElem? (i := 87) rfl)) (hw _ (List.mem_of_getElem? (i := 91) rfl)) (by decide) (rm_arb l Z a0 hw ((v265 - (16 : Int32)) - v4) v14 v60 v97 v106 v115 T24.heap n0 Z24 hb97 hb106 hb115) (by rw [hml]; rfl) rfl [(.int ((v265 - (16 : Int32)) - v4)), (.int v14), (.int v60), (.int v97), (.int v106), (.int v115)] rfl rfl (W := 0) (Nat.le_of_eq rfl) (by decide) (by decide) (by decide) (by decide) (lenOf pd_11 rfl) (hb hby at_342) rfl fun v34 T34 L34 X34 hQ34 => ?_
          obtain ⟨rfl, Nq34, eh34⟩ := hQ34
          have N34 := Fr.app N24 Nq34
          show Ga _ _ _ _ _ _ _ _ _ _ _ [(.int (own_ab ((v265 - (16 : Int32)) - v4) v14 v60 v97 v106 v115))]
          refine g_istore X34 hx (Ls' := #[.val (.int p0), .val (.int p1), .val (.int p2), .val (.int p3), .val (.long p4), .second, .val (.int p5), .val (.int v4), .val (.int v14), .val (.int v35), .val (.int v60), .val (.int v70), .val (.int v79), .val (.int v88), .val (.int v97), .val (.int v106), .val (.int v115), .val (.ref b1), .val (.ref b2), .val (.ref b11), .val (.ref b11), .val (.ref b11), .val (.ref d_24), .val (.int (((16 : Int32) + v4) + v14)), .val (.int v265), .val (.int (own_ab ((v265 - (16 : Int32)) - v4) v14 v60 v97 v106 v115))]) (hb hby at_345) rfl rfl ?_
          refine g_aload X34 hx (hb hby at_347) rfl rfl rfl ?_
          refine g_iload X34 hx (hb hby at_349) rfl rfl ?_
          refine g_baload X34 hx hZ eh34 p24_1 (v := (.int (own_T (((16 : Int32) + v4) + v14) (own_G p0 p1 p2 p3 (fun j => own_abN j v4.toNatClampNeg v35.toNatClampNeg v70 v79 v88) (fun j => own_abN j v14.toNatClampNeg v60.toNatClampNeg v97 v106 v115) v4.toNatClampNeg) v265.toNatClampNeg))) (own_kr hv265 htot) (hdg_24 _ (own_nat (own_kr hv265 htot).1 (own_kr hv265 htot).2)) (hb hby at_351) rfl ?_
          refine g_iload X34 hx (hb hby at_352) rfl rfl ?_
          have hc354 : (own_T (((16 : Int32) + v4) + v14) (own_G p0 p1 p2 p3 (fun j => own_abN j v4.toNatClampNeg v35.toNatClampNeg v70 v79 v88) (fun j => own_abN j v14.toNatClampNeg v60.toNatClampNeg v97 v106 v115) v4.toNatClampNeg) v265.toNatClampNeg) = (own_ab ((v265 - (16 : Int32)) - v4) v14 v60 v97 v106 v115) := own_fin3 hc272 hc298 (own_kr hv265 htot).2 n4.2.2.2.1 n4.2.2.1 n14.2.2.2.1 n14.2.2.1 (own_pr hv60 hc44 n14.2.2.1).1
          refine g_icmpN X34 hx (hb hby at_354) rfl (XT.ii_ne_f hc354) ?_
          refine g_iconst X34 hx (r := (1 : Int32)) (hb hby at_357) rfl rfl ?_
          refine g_goto X34 hx (q := 362) (hb hby at_358) (by decide) (by decide) ?_
          exact g_retN X34 hx (t := .boolean) (r := (1 : Int32)) hret (by simp) hlk (hb hby at_362) rfl (by decide) (by decide) (by rw [eh34]; exact ⟨rfl, N34⟩)
    · skip
      refine g_ifY X0 hx (q := 64) (hb hby at_44) (XT.i0_le_t hc44) (by decide) (by decide) ?_
      refine g_iconst X0 hx (r := (0 : Int32)) (hb hby at_64) rfl rfl ?_
      refine g_istore X0 hx (Ls' := #[.val (.int p0), .val (.int p1), .val (.int p2), .val (.int p3), .val (.long p4), .second, .val (.int p5), .val (.int v4), .val (.int v14), .val (.int v35), .val (.int (0 : Int32)), .unset, .unset, .unset, .unset, .unset, .unset, .unset, .unset, .unset, .unset, .unset, .unset, .unset, .unset, .unset]) (hb hby at_65) rfl rfl ?_
      refine g_lload X0 hx (hb hby at_67) rfl rfl ?_
      refine g_l2i X0 hx (hb hby at_69) rfl rfl ?_
      obtain ⟨v70, hv70⟩ : ∃ r, ((p4.toInt32).toInt8.toInt32) = r := ⟨_, rfl⟩
      refine g_i2b X0 hx (hb hby at_70) rfl hv70 ?_
      refine g_istore X0 hx (Ls' := #[.val (.int p0), .val (.int p1), .val (.int p2), .val (.int p3), .val (.long p4), .second, .val (.int p5), .val (.int v4), .val (.int v14), .val (.int v35), .val (.int (0 : Int32)), .val (.int v70), .unset, .unset, .unset, .unset, .unset, .unset, .unset, .unset, .unset, .unset, .unset, .unset, .unset, .unset]) (hb hby at_71) rfl rfl ?_
      refine g_lload X0 hx (hb hby at_73) rfl rfl ?_
      refine g_bipush X0 hx (r := (8 : Int32)) (hb hby at_75) rfl rfl ?_
      refine g_lushr X0 hx (hb hby at_77) rfl rfl ?_
      refine g_l2i X0 hx (hb hby at_78) rfl rfl ?_
      obtain ⟨v79, hv79⟩ : ∃ r, ((((p4.toUInt64 >>> ((8 : Int32) &&& 0x3f).toInt64.toUInt64).toInt64).toInt32).toInt8.toInt32) = r := ⟨_, rfl⟩
      refine g_i2b X0 hx (hb hby at_79) rfl hv79 ?_
      refine g_istore X0 hx (Ls' := #[.val (.int p0), .val (.int p1), .val (.int p2), .val (.int p3), .val (.long p4), .second, .val (.int p5), .val (.int v4), .val (.int v14), .val (.int v35), .val (.int (0 : Int32)), .val (.int v70), .val (.int v79), .unset, .unset, .unset, .unset, .unset, .unset, .unset, .unset, .unset, .unset, .unset, .unset, .unset]) (hb hby at_80) rfl rfl ?_
      refine g_lload X0 hx (hb hby at_82) rfl rfl ?_
      refine g_bipush X0 hx (r := (16 : Int32)) (hb hby at_84) rfl rfl ?_
      refine g_lushr X0 hx (hb hby at_86) rfl rfl ?_
      refine g_l2i X0 hx (hb hby at_87) rfl rfl ?_
      obtain ⟨v88, hv88⟩ : ∃ r, ((((p4.toUInt64 >>> ((16 : Int32) &&& 0x3f).toInt64.toUInt64).toInt64).toInt32).toInt8.toInt32) = r := ⟨_, rfl⟩
      refine g_i2b X0 hx (hb hby at_88) rfl hv88 ?_
      refine g_istore X0 hx (Ls' := #[.val (.int p0), .val (.int p1), .val (.int p2), .val (.int p3), .val (.long p4), .second, .val (.int p5), .val (.int v4), .val (.int v14), .val (.int v35), .val (.int (0 : Int32)), .val (.int v70), .val (.int v79), .val (.int v88), .unset, .unset, .unset, .unset, .unset, .unset, .unset, .unset, .unset, .unset, .unset, .unset]) (hb hby at_89) rfl rfl ?_
      refine g_lload X0 hx (hb hby at_91) rfl rfl ?_
      refine g_bipush X0 hx (r := (24 : Int32)) (hb hby at_93) rfl rfl ?_
      refine g_lushr X0 hx (hb hby at_95) rfl rfl ?_
      refine g_l2i X0 hx (hb hby at_96) rfl rfl ?_
      obtain ⟨v97, hv97⟩ : ∃ r, ((((p4.toUInt64 >>> ((24 : Int32) &&& 0x3f).toInt64.toUInt64).toInt64).toInt32).toInt8.toInt32) = r := ⟨_, rfl⟩
      refine g_i2b X0 hx (hb hby at_97) rfl hv97 ?_
      refine g_istore X0 hx (Ls' := #[.val (.int p0), .val (.int p1), .val (.int p2), .val (.int p3), .val (.long p4), .second, .val (.int p5), .val (.int v4), .val (.int v14), .val (.int v35), .val (.int (0 : Int32)), .val (.int v70), .val (.int v79), .val (.int v88), .val (.int v97), .unset, .unset, .unset, .unset, .unset, .unset, .unset, .unset, .unset, .unset, .unset]) (hb hby at_98) rfl rfl ?_
      refine g_lload X0 hx (hb hby at_100) rfl rfl ?_
      refine g_bipush X0 hx (r := (32 : Int32)) (hb hby at_102) rfl rfl ?_
      refine g_lushr X0 hx (hb hby at_104) rfl rfl ?_
      refine g_l2i X0 hx (hb hby at_105) rfl rfl ?_
      obtain ⟨v106, hv106⟩ : ∃ r, ((((p4.toUInt64 >>> ((32 : Int32) &&& 0x3f).toInt64.toUInt64).toInt64).toInt32).toInt8.toInt32) = r := ⟨_, rfl⟩
      refine g_i2b X0 hx (hb hby at_106) rfl hv106 ?_
      refine g_istore X0 hx (Ls' := #[.val (.int p0), .val (.int p1), .val (.int p2), .val (.int p3), .val (.long p4), .second, .val (.int p5), .val (.int v4), .val (.int v14), .val (.int v35), .val (.int (0 : Int32)), .val (.int v70), .val (.int v79), .val (.int v88), .val (.int v97), .val (.int v106), .unset, .unset, .unset, .unset, .unset, .unset, .unset, .unset, .unset, .unset]) (hb hby at_107) rfl rfl ?_
      refine g_lload X0 hx (hb hby at_109) rfl rfl ?_
      refine g_bipush X0 hx (r := (40 : Int32)) (hb hby at_111) rfl rfl ?_
      refine g_lushr X0 hx (hb hby at_113) rfl rfl ?_
      refine g_l2i X0 hx (hb hby at_114) rfl rfl ?_
      obtain ⟨v115, hv115⟩ : ∃ r, ((((p4.toUInt64 >>> ((40 : Int32) &&& 0x3f).toInt64.toUInt64).toInt64).toInt32).toInt8.toInt32) = r := ⟨_, rfl⟩
      refine g_i2b X0 hx (hb hby at_115) rfl hv115 ?_
      refine g_istore X0 hx (Ls' := #[.val (.int p0), .val (.int p1), .val (.int p2), .val (.int p3), .val (.long p4), .second, .val (.int p5), .val (.int v4), .val (.int v14), .val (.int v35), .val (.int (0 : Int32)), .val (.int v70), .val (.int v79), .val (.int v88), .val (.int v97), .val (.int v106), .val (.int v115), .unset, .unset, .unset, .unset, .unset, .unset, .unset, .unset, .unset]) (hb hby at_116) rfl rfl ?_
      have hb70 : v70.toInt8.toInt32 = v70 := by rw [← hv70]; exact own_bb _
      have hb79 : v79.toInt8.toInt32 = v79 := by rw [← hv79]; exact own_bb _
      have hb88 : v88.toInt8.toInt32 = v88 := by rw [← hv88]; exact own_bb _
      have hb97 : v97.toInt8.toInt32 = v97 := by rw [← hv97]; exact own_bb _
      have hb106 : v106.toInt8.toInt32 = v106 := by rw [← hv106]; exact own_bb _
      have hb115 : v115.toInt8.toInt32 = v115 := by rw [← hv115]; exact own_bb _
      have hGb : ∀ j, ((own_G p0 p1 p2 p3 (fun j => own_abN j v4.toNatClampNeg v35.toNatClampNeg v70 v79 v88) (fun j => own_abN j v14.toNatClampNeg (0 : Int32).toNatClampNeg v97 v106 v115) v4.toNatClampNeg) j).toInt8.toInt32 = (own_G p0 p1 p2 p3 (fun j => own_abN j v4.toNatClampNeg v35.toNatClampNeg v70 v79 v88) (fun j => own_abN j v14.toNatClampNeg (0 : Int32).toNatClampNeg v97 v106 v115) v4.toNatClampNeg) j := own_Gb (own_abNb hb70 hb79 hb88) (own_abNb hb97 hb106 hb115)
      refine g_iload X0 hx (hb hby at_118) rfl rfl ?_
      refine g_newarray X0 hx hZ (aty := .byte) (hw _ (List.mem_of_getElem? (i := 1) rfl)) e0 n4.1 63 n4.2.1 (by decide) (by decide) (by decide) (ad := "[B") (by decide) (hb hby at_120) rfl fun T35 h35 b35 ka35 X35 e35 q35 E35 A35 V35 => ?_
      have g_b35 : n0 ≤ b35 := Nat.le_trans Z0 (Nat.le_of_eq q35.symm)
      have Z35 : n0 ≤ h35.size := Nat.le_trans Z0 E35.1
      have Vn35 : Arv Z h35 b35 ka35 .byte v4 (List.replicate 63 (.int (0 : Int32))) (.int (0 : Int32)) := V35
      refine g_astore X35 hx (Ls' := #[.val (.int p0), .val (.int p1), .val (.int p2), .val (.int p3), .val (.long p4), .second, .val (.int p5), .val (.int v4), .val (.int v14), .val (.int v35), .val (.int (0 : Int32)), .val (.int v70), .val (.int v79), .val (.int v88), .val (.int v97), .val (.int v106), .val (.int v115), .val (.ref b35), .unset, .unset, .unset, .unset, .unset, .unset, .unset, .unset]) (hb hby at_122) rfl rfl rfl ?_
      refine g_iload X35 hx (hb hby at_124) rfl rfl ?_
      refine g_newarray X35 hx hZ (aty := .byte) (hw _ (List.mem_of_getElem? (i := 1) rfl)) e35 n14.1 63 n14.2.1 (by decide) (by decide) (by decide) (ad := "[B") (by decide) (hb hby at_126) rfl fun T36 h36 b36 ka36 X36 e36 q36 E36 A36 V36 => ?_
      have ne_b35_b36 : b35 ≠ b36 := own_ne Vn35.lt q36
      have g_b36 : n0 ≤ b36 := Nat.le_trans Z35 (Nat.le_of_eq q36.symm)
      have Z36 : n0 ≤ h36.size := Nat.le_trans Z35 E36.1
      have Vn36 : Arv Z h36 b36 ka36 .byte v14 (List.replicate 63 (.int (0 : Int32))) (.int (0 : Int32)) := V36
      refine g_astore X36 hx (Ls' := #[.val (.int p0), .val (.int p1), .val (.int p2), .val (.int p3), .val (.long p4), .second, .val (.int p5), .val (.int v4), .val (.int v14), .val (.int v35), .val (.int (0 : Int32)), .val (.int v70), .val (.int v79), .val (.int v88), .val (.int v97), .val (.int v106), .val (.int v115), .val (.ref b35), .val (.ref b36), .unset, .unset, .unset, .unset, .unset, .unset, .unset]) (hb hby at_128) rfl rfl rfl ?_
      refine g_iload X36 hx (hb hby at_130) rfl rfl ?_
      have hc132 : (0 : Int32) < v4 := hc19
      refine g_ifN X36 hx (hb hby at_132) rfl (XT.i0_le_f hc132) ?_
      refine g_aload X36 hx (hb hby at_135) rfl rfl rfl ?_
      refine g_iload X36 hx (hb hby at_137) rfl rfl ?_
      refine g_iload X36 hx (hb hby at_139) rfl rfl ?_
      have f37 : Arv Z h36 b35 ka35 .byte v4 (List.replicate 63 (.int (0 : Int32))) (.int (0 : Int32)) := (Vn35.ext E36)
      refine g_bastore X36 hx hZ e36 f37 (own_pr hv35 hc19 n4.2.2.1) (by simp only [List.length_set, List.length_replicate]; exact own_63 (own_pr hv35 hc19 n4.2.2.1).1 (own_pr hv35 hc19 n4.2.2.1).2 n4.2.1) (hb hby at_141) rfl fun T38 h38 X38 e38 W38 V38 => ?_
      rw [own_nar, hb88] at V38
      have Vn38 : Arv Z h38 b35 ka35 .byte v4 (List.set (List.replicate 63 (.int (0 : Int32))) (v35).toNatClampNeg (.int v88)) (.int (0 : Int32)) := V38
      have N38 := Fr.snoc X38 N0 g_b35
      have Z38 : n0 ≤ h38.size := by rw [W38.size]; exact Z36
      refine g_aload X38 hx (hb hby at_142) rfl rfl rfl ?_
      refine g_iconst X38 hx (r := (0 : Int32)) (hb hby at_144) rfl rfl ?_
      refine g_iload X38 hx (hb hby at_145) rfl rfl ?_
      refine g_bastore X38 hx hZ e38 Vn38 ⟨by decide, hc19⟩ (by simp only [List.length_set, List.length_replicate]; exact own_63 (by decide) hc19 n4.2.1) (hb hby at_147) rfl fun T39 h39 X39 e39 W39 V39 => ?_
      rw [own_nar, hb70] at V39
      have Vn39 : Arv Z h39 b35 ka35 .byte v4 (List.set (List.set (List.replicate 63 (.int (0 : Int32))) (v35).toNatClampNeg (.int v88)) ((0 : Int32)).toNatClampNeg (.int v70)) (.int (0 : Int32)) := V39
      have N39 := Fr.snoc X39 N38 g_b35
      have Z39 : n0 ≤ h39.size := by rw [W39.size]; exact Z38
      refine g_aload X39 hx (hb hby at_148) rfl rfl rfl ?_
      refine g_iload X39 hx (hb hby at_150) rfl rfl ?_
      refine g_iconst X39 hx (r := (1 : Int32)) (hb hby at_152) rfl rfl ?_
      refine g_isub X39 hx (hb hby at_153) rfl rfl ?_
      refine g_iload X39 hx (hb hby at_154) rfl rfl ?_
      refine g_bastore X39 hx hZ e39 Vn39 ⟨(own_m1 hc19).1, (own_m1 hc19).2.1⟩ (by simp only [List.length_set, List.length_replicate]; exact own_63 (own_m1 hc19).1 (own_m1 hc19).2.1 n4.2.1) (hb hby at_156) rfl fun T40 h40 X40 e40 W40 V40 => ?_
      rw [own_nar, hb79] at V40
      have Vn40 : Arv Z h40 b35 ka35 .byte v4 (List.set (List.set (List.set (List.replicate 63 (.int (0 : Int32))) (v35).toNatClampNeg (.int v88)) ((0 : Int32)).toNatClampNeg (.int v70)) ((v4 - (1 : Int32))).toNatClampNeg (.int v79)) (.int (0 : Int32)) := V40
      have N40 := Fr.snoc X40 N39 g_b35
      have Z40 : n0 ≤ h40.size := by rw [W40.size]; exact Z39
      refine g_iload X40 hx (hb hby at_157) rfl rfl ?_
      have hc159 : ¬ (0 : Int32) < v14 := hc44
      refine g_ifY X40 hx (q := 184) (hb hby at_159) (XT.i0_le_t hc159) (by decide) (by decide) ?_
      have f42 : Arv Z h40 b36 ka36 .byte v14 (List.replicate 63 (.int (0 : Int32))) (.int (0 : Int32)) := (((Vn36.other W38 (Ne.symm ne_b35_b36)).other W39 (Ne.symm ne_b35_b36)).other W40 (Ne.symm ne_b35_b36))
      refine g_new X40 hx hZ hown (hw _ (List.mem_of_getElem? (i := 2) rfl)) (hw _ (List.mem_of_getElem? (i := 3) rfl)) (hw _ (List.mem_of_getElem? (i := 4) rfl)) e40 (hb hby at_184) rfl (by decide) (by decide) fun T41 h41 b41 X41 e41 q41 E41 A41 D41 => ?_
      have ne_b35_b41 : b35 ≠ b41 := own_ne Vn40.lt q41
      have ne_b36_b41 : b36 ≠ b41 := own_ne f42.lt q41
      have g_b41 : n0 ≤ b41 := Nat.le_trans Z40 (Nat.le_of_eq q41.symm)
      have Z41 : n0 ≤ h41.size := Nat.le_trans Z40 E41.1
      have F41_bytes : Fld Z h41 b41 "com/example/glowworm/glowworm/NetlinkWriter" "bytes" "[B" .null := D41 (Or.inl (hw _ (List.mem_of_getElem? (i := 12) rfl))) (ty := (.array .byte)) (by decide)
      have F41_openNests : Fld Z h41 b41 "com/example/glowworm/glowworm/NetlinkWriter" "openNests" "Ljava/util/Deque;" .null := D41 (Or.inr (hw _ (List.mem_of_getElem? (i := 31) rfl))) (ty := (.object "java/util/Deque")) (by decide)
      have F41_length : Fld Z h41 b41 "com/example/glowworm/glowworm/NetlinkWriter" "length" "I" (.int (0 : Int32)) := D41 (Or.inl (hw _ (List.mem_of_getElem? (i := 45) rfl))) (ty := .int) (by decide)
      refine g_dup X41 hx (hb hby at_187) rfl rfl ?_
      refine g_iloadN X41 hx (hb hby at_188) rfl rfl ?_
      refine g_iloadN X41 hx (hb hby at_189) rfl rfl ?_
      refine g_iloadN X41 hx (hb hby at_190) rfl rfl ?_
      refine g_iloadN X41 hx (hb hby at_191) rfl rfl ?_
      refine g_special X41 hx hZ hown rfl (hw _ (List.mem_of_getElem? (i := 5) rfl)) (hw _ (List.mem_of_getElem? (i := 6) rfl)) (hw _ (List.mem_of_getElem? (i := 4) rfl)) (hw _ (List.mem_of_getElem? (i := 7) rfl)) (by decide) (a := b41) (rm_nini l Z a0 hw b41 p0 p1 p2 p3 h41 n0 Z41 F41_length F41_bytes F41_openNests A41 g_b41) (by rw [hml]; rfl) e41 [(.int p0), (.int p1), (.int p2), (.int p3)] rfl rfl (W := 1) (Nat.le_of_eq rfl) (by decide) (by decide) (by decide) (by decide) (lenOf pd_7 rfl) (hb hby at_192) rfl fun v43 T43 L43 X43 hQ43 => ?_
      obtain ⟨b_43, ka_43, dq_43, rfl, Nq43, kc43, p43_0, p43_1, p43_2, p43_3, p43_4, p43_5, p43_6, p43_7, p43_8, p43_9, p43_10, p43_11⟩ := hQ43
      have N43 := Fr.app N40 Nq43
      have f44 : Arv Z h41 b35 ka35 .byte v4 (List.set (List.set (List.set (List.replicate 63 (.int (0 : Int32))) (v35).toNatClampNeg (.int v88)) ((0 : Int32)).toNatClampNeg (.int v70)) ((v4 - (1 : Int32))).toNatClampNeg (.int v79)) (.int (0 : Int32)) := (Vn40.ext E41)
      have f45 : Arv Z h41 b36 ka36 .byte v14 (List.replicate 63 (.int (0 : Int32))) (.int (0 : Int32)) := (f42.ext E41)
      have ne_b35_b_43 : b35 ≠ b_43 := own_neK f44.lt p43_0
      have ne_b36_b_43 : b36 ≠ b_43 := own_neK f45.lt p43_0
      have ne_b41_b_43 : b41 ≠ b_43 := own_neK A41.lt p43_0
      have g_b_43 : n0 ≤ b_43 := Nat.le_trans Z41 p43_0
      have ne_b35_dq_43 : b35 ≠ dq_43 := own_neK f44.lt p43_1
      have ne_b36_dq_43 : b36 ≠ dq_43 := own_neK f45.lt p43_1
      have ne_b41_dq_43 : b41 ≠ dq_43 := own_neK A41.lt p43_1
      have g_dq_43 : n0 ≤ dq_43 := Nat.le_trans Z41 p43_1
      have Z43 : n0 ≤ T43.heap.size := Nat.le_trans Z41 kc43.1
      have pv43_10 : Arv Z T43.heap b_43 ka_43 .byte (64 : Int32) [(.int (0 : Int32)), (.int (0 : Int32)), (.int (0 : Int32)), (.int (0 : Int32)), (.int (p0.toInt8.toInt32)), (.int (((p0.toUInt32 >>> ((8 : Int32) &&& 31).toUInt32).toInt32).toInt8.toInt32)), (.int (p1.toInt8.toInt32)), (.int (((p1.toUInt32 >>> ((8 : Int32) &&& 31).toUInt32).toInt32).toInt8.toInt32)), (.int (p2.toInt8.toInt32)), (.int (((p2.toUInt32 >>> ((8 : Int32) &&& 31).toUInt32).toInt32).toInt8.toInt32)), (.int (((p2.toUInt32 >>> ((16 : Int32) &&& 31).toUInt32).toInt32).toInt8.toInt32)), (.int (((((p2.toUInt32 >>> ((16 : Int32) &&& 31).toUInt32).toInt32).toUInt32 >>> ((8 : Int32) &&& 31).toUInt32).toInt32).toInt8.toInt32)), (.int (p3.toInt8.toInt32)), (.int (((p3.toUInt32 >>> ((8 : Int32) &&& 31).toUInt32).toInt32).toInt8.toInt32)), (.int (((p3.toUInt32 >>> ((16 : Int32) &&& 31).toUInt32).toInt32).toInt8.toInt32)), (.int (((((p3.toUInt32 >>> ((16 : Int32) &&& 31).toUInt32).toInt32).toUInt32 >>> ((8 : Int32) &&& 31).toUInt32).toInt32).toInt8.toInt32)), (.int (0 : Int32)), (.int (0 : Int32)), (.int (0 : Int32)), (.int (0 : Int32)), (.int (0 : Int32)), (.int (0 : Int32)), (.int (0 : Int32)), (.int (0 : Int32)), (.int (0 : Int32)), (.int (0 : Int32)), (.int (0 : Int32)), (.int (0 : Int32)), (.int (0 : Int32)), (.int (0 : Int32)), (.int (0 : Int32)), (.int (0 : Int32)), (.int (0 : Int32)), (.int (0 : Int32)), (.int (0 : Int32)), (.int (0 : Int32)), (.int (0 : Int32)), (.int (0 : Int32)), (.int (0 : Int32)), (.int (0 : Int32)), (.int (0 : Int32)), (.int (0 : Int32)), (.int (0 : Int32)), (.int (0 : Int32)), (.int (0 : Int32)), (.int (0 : Int32)), (.int (0 : Int32)), (.int (0 : Int32)), (.int (0 : Int32)), (.int (0 : Int32)), (.int (0 : Int32)), (.int (0 : Int32)), (.int (0 : Int32)), (.int (0 : Int32)), (.int (0 : Int32)), (.int (0 : Int32)), (.int (0 : Int32)), (.int (0 : Int32)), (.int (0 : Int32)), (.int (0 : Int32)), (.int (0 : Int32)), (.int (0 : Int32)), (.int (0 : Int32)), (.int (0 : Int32))] (.int (0 : Int32)) := p43_10
      show Ga _ _ _ _ _ _ _ _ _ _ _ [(.ref b41)]
      refine g_astore X43 hx (Ls' := #[.val (.int p0), .val (.int p1), .val (.int p2), .val (.int p3), .val (.long p4), .second, .val (.int p5), .val (.int v4), .val (.int v14), .val (.int v35), .val (.int (0 : Int32)), .val (.int v70), .val (.int v79), .val (.int v88), .val (.int v97), .val (.int v106), .val (.int v115), .val (.ref b35), .val (.ref b36), .val (.ref b41), .unset, .unset, .unset, .unset, .unset, .unset]) (hb hby at_195) rfl rfl rfl ?_
      refine g_aload X43 hx (hb hby at_197) rfl rfl rfl ?_
      refine g_aload X43 hx (hb hby at_199) rfl rfl rfl ?_
      have hC16 : ∀ j, j < (16 : Int32).toNatClampNeg → ([(.int (0 : Int32)), (.int (0 : Int32)), (.int (0 : Int32)), (.int (0 : Int32)), (.int (p0.toInt8.toInt32)), (.int (((p0.toUInt32 >>> ((8 : Int32) &&& 31).toUInt32).toInt32).toInt8.toInt32)), (.int (p1.toInt8.toInt32)), (.int (((p1.toUInt32 >>> ((8 : Int32) &&& 31).toUInt32).toInt32).toInt8.toInt32)), (.int (p2.toInt8.toInt32)), (.int (((p2.toUInt32 >>> ((8 : Int32) &&& 31).toUInt32).toInt32).toInt8.toInt32)), (.int (((p2.toUInt32 >>> ((16 : Int32) &&& 31).toUInt32).toInt32).toInt8.toInt32)), (.int (((((p2.toUInt32 >>> ((16 : Int32) &&& 31).toUInt32).toInt32).toUInt32 >>> ((8 : Int32) &&& 31).toUInt32).toInt32).toInt8.toInt32)), (.int (p3.toInt8.toInt32)), (.int (((p3.toUInt32 >>> ((8 : Int32) &&& 31).toUInt32).toInt32).toInt8.toInt32)), (.int (((p3.toUInt32 >>> ((16 : Int32) &&& 31).toUInt32).toInt32).toInt8.toInt32)), (.int (((((p3.toUInt32 >>> ((16 : Int32) &&& 31).toUInt32).toInt32).toUInt32 >>> ((8 : Int32) &&& 31).toUInt32).toInt32).toInt8.toInt32)), (.int (0 : Int32)), (.int (0 : Int32)), (.int (0 : Int32)), (.int (0 : Int32)), (.int (0 : Int32)), (.int (0 : Int32)), (.int (0 : Int32)), (.int (0 : Int32)), (.int (0 : Int32)), (.int (0 : Int32)), (.int (0 : Int32)), (.int (0 : Int32)), (.int (0 : Int32)), (.int (0 : Int32)), (.int (0 : Int32)), (.int (0 : Int32)), (.int (0 : Int32)), (.int (0 : Int32)), (.int (0 : Int32)), (.int (0 : Int32)), (.int (0 : Int32)), (.int (0 : Int32)), (.int (0 : Int32)), (.int (0 : Int32)), (.int (0 : Int32)), (.int (0 : Int32)), (.int (0 : Int32)), (.int (0 : Int32)), (.int (0 : Int32)), (.int (0 : Int32)), (.int (0 : Int32)), (.int (0 : Int32)), (.int (0 : Int32)), (.int (0 : Int32)), (.int (0 : Int32)), (.int (0 : Int32)), (.int (0 : Int32)), (.int (0 : Int32)), (.int (0 : Int32)), (.int (0 : Int32)), (.int (0 : Int32)), (.int (0 : Int32)), (.int (0 : Int32)), (.int (0 : Int32)), (.int (0 : Int32)), (.int (0 : Int32)), (.int (0 : Int32)), (.int (0 : Int32))] : List Value).getD j (.int (0 : Int32)) = .int ((own_G p0 p1 p2 p3 (fun j => own_abN j v4.toNatClampNeg v35.toNatClampNeg v70 v79 v88) (fun j => own_abN j v14.toNatClampNeg (0 : Int32).toNatClampNeg v97 v106 v115) v4.toNatClampNeg) j) := fun j hj => match j, hj with | 0, _ => rfl | 1, _ => rfl | 2, _ => rfl | 3, _ => rfl | 4, _ => rfl | 5, _ => rfl | 6, _ => rfl | 7, _ => rfl | 8, _ => rfl | 9, _ => rfl | 10, _ => rfl | 11, _ => rfl | 12, _ => rfl | 13, _ => rfl | 14, _ => rfl | 15, _ => rfl | j + 16, hj => absurd hj (by simp [show (16 : Int32).toNatClampNeg = 16 from rfl])
      have f47 : Arv Z T43.heap b35 ka35 .byte v4 (List.set (List.set (List.set (List.replicate 63 (.int (0 : Int32))) (v35).toNatClampNeg (.int v88)) ((0 : Int32)).toNatClampNeg (.int v70)) ((v4 - (1 : Int32))).toNatClampNeg (.int v79)) (.int (0 : Int32)) := (f44.keep kc43 (ninS ne_b35_b41 nin0))
      refine g_virtual X43 hx hZ hown (hw _ (List.mem_of_getElem? (i := 46) rfl)) (hw _ (List.mem_of_getElem? (i := 47) rfl)) (notFace_of_selects (args := #[]) (mvT hZ (hw _ (List.mem_of_getElem? (i := 49) rfl)))) (hw _ (List.mem_of_getElem? (i := 49) rfl)) (hw _ (List.mem_of_getElem? (i := 48) rfl)) (hw _ (List.mem_of_getElem? (i := 4) rfl)) (hw _ (List.mem_of_getElem? (i := 50) rfl)) (by decide) (a := b41) p43_3 (rm_raw l Z a0 hw b41 b35 ka35 (List.set (List.set (List.set (List.replicate 63 (.int (0 : Int32))) (v35).toNatClampNeg (.int v88)) ((0 : Int32)).toNatClampNeg (.int v70)) ((v4 - (1 : Int32))).toNatClampNeg (.int v79)) v4 b_43 ka_43 dq_43 (64 : Int32) (16 : Int32) [(.int (0 : Int32)), (.int (0 : Int32)), (.int (0 : Int32)), (.int (0 : Int32)), (.int (p0.toInt8.toInt32)), (.int (((p0.toUInt32 >>> ((8 : Int32) &&& 31).toUInt32).toInt32).toInt8.toInt32)), (.int (p1.toInt8.toInt32)), (.int (((p1.toUInt32 >>> ((8 : Int32) &&& 31).toUInt32).toInt32).toInt8.toInt32)), (.int (p2.toInt8.toInt32)), (.int (((p2.toUInt32 >>> ((8 : Int32) &&& 31).toUInt32).toInt32).toInt8.toInt32)), (.int (((p2.toUInt32 >>> ((16 : Int32) &&& 31).toUInt32).toInt32).toInt8.toInt32)), (.int (((((p2.toUInt32 >>> ((16 : Int32) &&& 31).toUInt32).toInt32).toUInt32 >>> ((8 : Int32) &&& 31).toUInt32).toInt32).toInt8.toInt32)), (.int (p3.toInt8.toInt32)), (.int (((p3.toUInt32 >>> ((8 : Int32) &&& 31).toUInt32).toInt32).toInt8.toInt32)), (.int (((p3.toUInt32 >>> ((16 : Int32) &&& 31).toUInt32).toInt32).toInt8.toInt32)), (.int (((((p3.toUInt32 >>> ((16 : Int32) &&& 31).toUInt32).toInt32).toUInt32 >>> ((8 : Int32) &&& 31).toUInt32).toInt32).toInt8.toInt32)), (.int (0 : Int32)), (.int (0 : Int32)), (.int (0 : Int32)), (.int (0 : Int32)), (.int (0 : Int32)), (.int (0 : Int32)), (.int (0 : Int32)), (.int (0 : Int32)), (.int (0 : Int32)), (.int (0 : Int32)), (.int (0 : Int32)), (.int (0 : Int32)), (.int (0 : Int32)), (.int (0 : Int32)), (.int (0 : Int32)), (.int (0 : Int32)), (.int (0 : Int32)), (.int (0 : Int32)), (.int (0 : Int32)), (.int (0 : Int32)), (.int (0 : Int32)), (.int (0 : Int32)), (.int (0 : Int32)), (.int (0 : Int32)), (.int (0 : Int32)), (.int (0 : Int32)), (.int (0 : Int32)), (.int (0 : Int32)), (.int (0 : Int32)), (.int (0 : Int32)), (.int (0 : Int32)), (.int (0 : Int32)), (.int (0 : Int32)), (.int (0 : Int32)), (.int (0 : Int32)), (.int (0 : Int32)), (.int (0 : Int32)), (.int (0 : Int32)), (.int (0 : Int32)), (.int (0 : Int32)), (.int (0 : Int32)), (.int (0 : Int32)), (.int (0 : Int32)), (.int (0 : Int32)), (.int (0 : Int32)), (.int (0 : Int32)), (.int (0 : Int32)), (.int (0 : Int32))] (own_G p0 p1 p2 p3 (fun j => own_abN j v4.toNatClampNeg v35.toNatClampNeg v70 v79 v88) (fun j => own_abN j v14.toNatClampNeg (0 : Int32).toNatClampNeg v97 v106 v115) v4.toNatClampNeg) T43.heap n0 Z43 p43_7 p43_8 p43_9 pv43_10 f47 p43_3 p43_11 g_b41 g_b_43 ne_b41_b_43 ne_b35_b41 ne_b35_b_43 hGb (by decide) n4.1 (by have q := n4.2.2.1; have e : (16 : Int32).toInt = 16 := rfl; omega) (⟨rfl, by decide, by decide, Or.inl ⟨rfl, rfl, rfl⟩⟩) hC16 (own_P1 (own_arr hc19 n4.2.1 (own_pr hv35 hc19 n4.2.2.1).1 (own_pr hv35 hc19 n4.2.2.1).2))) (by rw [hml]; rfl) rfl [(.ref b35)] rfl rfl (W := 0) (Nat.le_of_eq rfl) (by decide) (by decide) (by decide) (by decide) (lenOf pd_8 rfl) (hb hby at_201) rfl fun v46 T46 L46 X46 hQ46 => ?_
      obtain ⟨b2_46, k2_46, z2_46, v2_46, rfl, Nq46, kc46, p46_0, p46_1, p46_2, p46_3, p46_4, p46_5, p46_6, p46_7, p46_8, p46_9⟩ := hQ46
      have N46 := Fr.app N43 Nq46
      have f48 : Arv Z T43.heap b36 ka36 .byte v14 (List.replicate 63 (.int (0 : Int32))) (.int (0 : Int32)) := (f45.keep kc43 (ninS ne_b36_b41 nin0))
      have ne_b35_b2_46 : b35 ≠ b2_46 := own_nb p46_0 f47.lt ne_b35_b_43
      have ne_b36_b2_46 : b36 ≠ b2_46 := own_nb p46_0 f48.lt ne_b36_b_43
      have ne_b41_b2_46 : b41 ≠ b2_46 := own_nb p46_0 p43_3.lt ne_b41_b_43
      have ne_dq_43_b2_46 : dq_43 ≠ b2_46 := own_nb p46_0 p43_4.lt (Ne.symm p43_2)
      have g_b2_46 : n0 ≤ b2_46 := own_ng p46_0 g_b_43 Z43
      have Z46 : n0 ≤ T46.heap.size := Nat.le_trans Z43 kc46.1
      have hrm2_46 := p46_8
      have hC2_46 := p46_9
      show Ga _ _ _ _ _ _ _ _ _ _ _ [(.ref b41)]
      refine g_astore X46 hx (Ls' := #[.val (.int p0), .val (.int p1), .val (.int p2), .val (.int p3), .val (.long p4), .second, .val (.int p5), .val (.int v4), .val (.int v14), .val (.int v35), .val (.int (0 : Int32)), .val (.int v70), .val (.int v79), .val (.int v88), .val (.int v97), .val (.int v106), .val (.int v115), .val (.ref b35), .val (.ref b36), .val (.ref b41), .val (.ref b41), .unset, .unset, .unset, .unset, .unset]) (hb hby at_204) rfl rfl rfl ?_
      refine g_aload X46 hx (hb hby at_206) rfl rfl rfl ?_
      refine g_aload X46 hx (hb hby at_208) rfl rfl rfl ?_
      have f50 : Arv Z T46.heap b36 ka36 .byte v14 (List.replicate 63 (.int (0 : Int32))) (.int (0 : Int32)) := (f48.keep kc46 (ninS ne_b36_b41 (ninS ne_b36_b_43 nin0)))
      refine g_virtual X46 hx hZ hown (hw _ (List.mem_of_getElem? (i := 46) rfl)) (hw _ (List.mem_of_getElem? (i := 47) rfl)) (notFace_of_selects (args := #[]) (mvT hZ (hw _ (List.mem_of_getElem? (i := 49) rfl)))) (hw _ (List.mem_of_getElem? (i := 49) rfl)) (hw _ (List.mem_of_getElem? (i := 48) rfl)) (hw _ (List.mem_of_getElem? (i := 4) rfl)) (hw _ (List.mem_of_getElem? (i := 50) rfl)) (by decide) (a := b41) p46_1 (rm_raw l Z a0 hw b41 b36 ka36 (List.replicate 63 (.int (0 : Int32))) v14 b2_46 k2_46 dq_43 z2_46 ((16 : Int32) + v4) v2_46 (own_G p0 p1 p2 p3 (fun j => own_abN j v4.toNatClampNeg v35.toNatClampNeg v70 v79 v88) (fun j => own_abN j v14.toNatClampNeg (0 : Int32).toNatClampNeg v97 v106 v115) v4.toNatClampNeg) T46.heap n0 Z46 p46_3 p46_4 p46_5 p46_6 f50 p46_1 p46_2 g_b41 g_b2_46 p46_7 ne_b36_b41 ne_b36_b2_46 hGb ((own_1617 n4.2.2.2.1 n4.2.2.1).2.1) n14.1 (by rw [(own_1617 n4.2.2.2.1 n4.2.2.1).1]; have q := n14.2.2.1; have r := n4.2.2.1; omega) (own_RM0 hrm2_46) hC2_46 (own_P2 n4.2.2.2.1 n4.2.2.1 (own_non n14.2.2.2.1 hc44))) (by rw [hml]; rfl) rfl [(.ref b36)] rfl rfl (W := 0) (Nat.le_of_eq rfl) (by decide) (by decide) (by decide) (by decide) (lenOf pd_8 rfl) (hb hby at_210) rfl fun v49 T49 L49 X49 hQ49 => ?_
      obtain ⟨b2_49, k2_49, z2_49, v2_49, rfl, Nq49, kc49, p49_0, p49_1, p49_2, p49_3, p49_4, p49_5, p49_6, p49_7, p49_8, p49_9⟩ := hQ49
      have N49 := Fr.app N46 Nq49
      have f51 : Arv Z T46.heap b35 ka35 .byte v4 (List.set (List.set (List.set (List.replicate 63 (.int (0 : Int32))) (v35).toNatClampNeg (.int v88)) ((0 : Int32)).toNatClampNeg (.int v70)) ((v4 - (1 : Int32))).toNatClampNeg (.int v79)) (.int (0 : Int32)) := (f47.keep kc46 (ninS ne_b35_b41 (ninS ne_b35_b_43 nin0)))
      have f52 : Exa Z T46.heap b_43 "[B" := (p43_11.keep kc46)
      have f53 : Exa Z T46.heap dq_43 "java/util/ArrayDeque" := (p43_4.keep kc46)
      have ne_b35_b2_49 : b35 ≠ b2_49 := own_nb p49_0 f51.lt ne_b35_b2_46
      have ne_b36_b2_49 : b36 ≠ b2_49 := own_nb p49_0 f50.lt ne_b36_b2_46
      have ne_b41_b2_49 : b41 ≠ b2_49 := own_nb p49_0 p46_1.lt p46_7
      have ne_dq_43_b2_49 : dq_43 ≠ b2_49 := own_nb p49_0 f53.lt ne_dq_43_b2_46
      have g_b2_49 : n0 ≤ b2_49 := own_ng p49_0 g_b2_46 Z46
      have Z49 : n0 ≤ T49.heap.size := Nat.le_trans Z46 kc49.1
      have hrm2_49 := p49_8
      have hC2_49 := p49_9
      show Ga _ _ _ _ _ _ _ _ _ _ _ [(.ref b41)]
      refine g_astore X49 hx (Ls' := #[.val (.int p0), .val (.int p1), .val (.int p2), .val (.int p3), .val (.long p4), .second, .val (.int p5), .val (.int v4), .val (.int v14), .val (.int v35), .val (.int (0 : Int32)), .val (.int v70), .val (.int v79), .val (.int v88), .val (.int v97), .val (.int v106), .val (.int v115), .val (.ref b35), .val (.ref b36), .val (.ref b41), .val (.ref b41), .val (.ref b41), .unset, .unset, .unset, .unset]) (hb hby at_213) rfl rfl rfl ?_
      refine g_aload X49 hx (hb hby at_215) rfl rfl rfl ?_
      have f55 : Exa Z T49.heap dq_43 "java/util/ArrayDeque" := (f53.keep kc49)
      have f56 : Fld Z T49.heap dq_43 "java/util/ArrayDeque" "head" "I" (.int (0 : Int32)) := ((p43_5.keep kc46 (ninS (Ne.symm ne_b41_dq_43) (ninS (Ne.symm p43_2) nin0))).keep kc49 (ninS (Ne.symm ne_b41_dq_43) (ninS ne_dq_43_b2_46 nin0)))
      have f57 : Fld Z T49.heap dq_43 "java/util/ArrayDeque" "tail" "I" (.int (0 : Int32)) := ((p43_6.keep kc46 (ninS (Ne.symm ne_b41_dq_43) (ninS (Ne.symm p43_2) nin0))).keep kc49 (ninS (Ne.symm ne_b41_dq_43) (ninS ne_dq_43_b2_46 nin0)))
      refine g_virtual X49 hx hZ hown (hw _ (List.mem_of_getElem? (i := 51) rfl)) (hw _ (List.mem_of_getElem? (i := 52) rfl)) (notFace_of_selects (args := #[]) (mvT hZ (hw _ (List.mem_of_getElem? (i := 54) rfl)))) (hw _ (List.mem_of_getElem? (i := 54) rfl)) (hw _ (List.mem_of_getElem? (i := 53) rfl)) (hw _ (List.mem_of_getElem? (i := 4) rfl)) (hw _ (List.mem_of_getElem? (i := 55) rfl)) (by decide) (a := b41) p49_1 (rm_tobytes l Z a0 hw b41 b2_49 dq_43 k2_49 v2_49 z2_49 (((16 : Int32) + v4) + v14) (own_G p0 p1 p2 p3 (fun j => own_abN j v4.toNatClampNeg v35.toNatClampNeg v70 v79 v88) (fun j => own_abN j v14.toNatClampNeg (0 : Int32).toNatClampNeg v97 v106 v115) v4.toNatClampNeg) T49.heap n0 Z49 p49_3 p49_4 p49_5 p49_6 p49_1 p49_2 g_b2_49 p49_7 f55 f56 f57 htt.2 hrm2_49 hC2_49) (by rw [hml]; rfl) rfl [] rfl rfl (W := 0) (Nat.le_of_eq rfl) (by decide) (by decide) (by decide) (by decide) (lenOf pd_9 rfl) (hb hby at_217) rfl fun v54 T54 L54 X54 hQ54 => ?_
      obtain ⟨d_54, kd_54, ds_54, rfl, Nq54, kc54, p54_0, p54_1, p54_2⟩ := hQ54
      have N54 := Fr.app N49 Nq54
      have f58 : Exa Z T49.heap b2_46 "[B" := (p46_2.keep kc49)
      have f59 : Arv Z T49.heap b35 ka35 .byte v4 (List.set (List.set (List.set (List.replicate 63 (.int (0 : Int32))) (v35).toNatClampNeg (.int v88)) ((0 : Int32)).toNatClampNeg (.int v70)) ((v4 - (1 : Int32))).toNatClampNeg (.int v79)) (.int (0 : Int32)) := (f51.keep kc49 (ninS ne_b35_b41 (ninS ne_b35_b2_46 nin0)))
      have f60 : Arv Z T49.heap b36 ka36 .byte v14 (List.replicate 63 (.int (0 : Int32))) (.int (0 : Int32)) := (f50.keep kc49 (ninS ne_b36_b41 (ninS ne_b36_b2_46 nin0)))
      have f61 : Exa Z T49.heap b_43 "[B" := (f52.keep kc49)
      have ne_b2_46_d_54 : b2_46 ≠ d_54 := own_neK f58.lt p54_0
      have ne_b2_49_d_54 : b2_49 ≠ d_54 := own_neK p49_2.lt p54_0
      have ne_b35_d_54 : b35 ≠ d_54 := own_neK f59.lt p54_0
      have ne_b36_d_54 : b36 ≠ d_54 := own_neK f60.lt p54_0
      have ne_b41_d_54 : b41 ≠ d_54 := own_neK p49_1.lt p54_0
      have ne_b_43_d_54 : b_43 ≠ d_54 := own_neK f61.lt p54_0
      have ne_dq_43_d_54 : dq_43 ≠ d_54 := own_neK f55.lt p54_0
      have g_d_54 : n0 ≤ d_54 := Nat.le_trans Z49 p54_0
      have Z54 : n0 ≤ T54.heap.size := Nat.le_trans Z49 kc54.1
      have hdg_54 := p54_2
      show Ga _ _ _ _ _ _ _ _ _ _ _ [(.ref d_54)]
      refine g_astore X54 hx (Ls' := #[.val (.int p0), .val (.int p1), .val (.int p2), .val (.int p3), .val (.long p4), .second, .val (.int p5), .val (.int v4), .val (.int v14), .val (.int v35), .val (.int (0 : Int32)), .val (.int v70), .val (.int v79), .val (.int v88), .val (.int v97), .val (.int v106), .val (.int v115), .val (.ref b35), .val (.ref b36), .val (.ref b41), .val (.ref b41), .val (.ref b41), .val (.ref d_54), .unset, .unset, .unset]) (hb hby at_220) rfl rfl rfl ?_
      refine g_bipush X54 hx (r := (16 : Int32)) (hb hby at_222) rfl rfl ?_
      refine g_iload X54 hx (hb hby at_224) rfl rfl ?_
      refine g_iadd X54 hx (hb hby at_226) rfl rfl ?_
      refine g_iload X54 hx (hb hby at_227) rfl rfl ?_
      refine g_iadd X54 hx (hb hby at_229) rfl rfl ?_
      refine g_istore X54 hx (Ls' := #[.val (.int p0), .val (.int p1), .val (.int p2), .val (.int p3), .val (.long p4), .second, .val (.int p5), .val (.int v4), .val (.int v14), .val (.int v35), .val (.int (0 : Int32)), .val (.int v70), .val (.int v79), .val (.int v88), .val (.int v97), .val (.int v106), .val (.int v115), .val (.ref b35), .val (.ref b36), .val (.ref b41), .val (.ref b41), .val (.ref b41), .val (.ref d_54), .val (.int (((16 : Int32) + v4) + v14)), .unset, .unset]) (hb hby at_230) rfl rfl ?_
      refine g_aload X54 hx (hb hby at_232) rfl rfl rfl ?_
      refine g_aload X54 hx (hb hby at_234) rfl rfl rfl ?_
      refine g_acmp X54 hx (q := 239) (same := true) (hb hby at_236) rfl rfl (decide_eq_true rfl) (by decide) (by decide) ?_
      refine g_aload X54 hx (hb hby at_239) rfl rfl rfl ?_
      refine g_aload X54 hx (hb hby at_241) rfl rfl rfl ?_
      refine g_acmp X54 hx (q := 248) (same := true) (hb hby at_243) rfl rfl (decide_eq_true rfl) (by decide) (by decide) ?_
      refine g_aload X54 hx (hb hby at_248) rfl rfl rfl ?_
      refine g_len X54 hx hZ rfl p54_1 (hb hby at_250) rfl ?_
      refine g_iload X54 hx (hb hby at_251) rfl rfl ?_
      refine g_icmpY X54 hx (q := 258) (hb hby at_253) (XT.ii_eq_t rfl) (by decide) (by decide) ?_
      refine g_iload X54 hx (hb hby at_258) rfl rfl ?_
      refine g_bipush X54 hx (r := (12 : Int32)) (hb hby at_260) rfl rfl ?_
      refine g_iushr X54 hx (hb hby at_262) rfl rfl ?_
      refine g_iload X54 hx (hb hby at_263) rfl rfl ?_
      obtain ⟨v265, hv265⟩ : ∃ r, (((p5.toUInt32 >>> ((12 : Int32) &&& 31).toUInt32).toInt32) % (((16 : Int32) + v4) + v14)) = r := ⟨_, rfl⟩
      refine g_irem X54 hx (hb hby at_265) rfl (own_nzt htot) hv265 ?_
      refine g_istore X54 hx (Ls' := #[.val (.int p0), .val (.int p1), .val (.int p2), .val (.int p3), .val (.long p4), .second, .val (.int p5), .val (.int v4), .val (.int v14), .val (.int v35), .val (.int (0 : Int32)), .val (.int v70), .val (.int v79), .val (.int v88), .val (.int v97), .val (.int v106), .val (.int v115), .val (.ref b35), .val (.ref b36), .val (.ref b41), .val (.ref b41), .val (.ref b41), .val (.ref d_54), .val (.int (((16 : Int32) + v4) + v14)), .val (.int v265), .unset]) (hb hby at_266) rfl rfl ?_
      refine g_iload X54 hx (hb hby at_268) rfl rfl ?_
      refine g_bipush X54 hx (r := (16 : Int32)) (hb hby at_270) rfl rfl ?_
      by_cases hc272 : v265 < (16 : Int32)
      · skip
        refine g_icmpN X54 hx (hb hby at_272) rfl (XT.ii_ge_f hc272) ?_
        refine g_iload X54 hx (hb hby at_275) rfl rfl ?_
        refine g_iload X54 hx (hb hby at_277) rfl rfl ?_
        refine g_iloadN X54 hx (hb hby at_279) rfl rfl ?_
        refine g_iloadN X54 hx (hb hby at_280) rfl rfl ?_
        refine g_iloadN X54 hx (hb hby at_281) rfl rfl ?_
        refine g_iloadN X54 hx (hb hby at_282) rfl rfl ?_
        refine g_static X54 hx hZ hown (hw _ (List.mem_of_getElem? (i := 85) rfl)) (hw _ (List.mem_of_getElem? (i := 86) rfl)) (hw _ (List.mem_of_getElem? (i := 87) rfl)) (hw _ (List.mem_of_getElem? (i := 88) rfl)) (by decide) (rm_hdb l Z a0 hw v265 (((16 : Int32) + v4) + v14) p0 p1 p2 p3 T54.heap n0 Z54) (by rw [hml]; rfl) rfl [(.int v265), (.int (((16 : Int32) + v4) + v14)), (.int p0), (.int p1), (.int p2), (.int p3)] rfl rfl (W := 0) (Nat.le_of_eq rfl) (by decide) (by decide) (by decide) (by decide) (lenOf pd_10 rfl) (hb hby at_283) rfl fun v62 T62 L62 X62 hQ62 => ?_
        obtain ⟨rfl, Nq62, eh62⟩ := hQ62
        have N62 := Fr.app N54 Nq62
        show Ga _ _ _ _ _ _ _ _ _ _ _ [(.int (own_hb v265 (((16 : Int32) + v4) + v14) p0 p1 p2 p3))]
        refine g_istore X62 hx (Ls' := #[.val (.int p0), .val (.int p1), .val (.int p2), .val (.int p3), .val (.long p4), .second, .val (.int p5), .val (.int v4), .val (.int v14), .val (.int v35), .val (.int (0 : Int32)), .val (.int v70), .val (.int v79), .val (.int v88), .val (.int v97), .val (.int v106), .val (.int v115), .val (.ref b35), .val (.ref b36), .val (.ref b41), .val (.ref b41), .val (.ref b41), .val (.ref d_54), .val (.int (((16 : Int32) + v4) + v14)), .val (.int v265), .val (.int (own_hb v265 (((16 : Int32) + v4) + v14) p0 p1 p2 p3))]) (hb hby at_286) rfl rfl ?_
        refine g_goto X62 hx (q := 347) (hb hby at_288) (by decide) (by decide) ?_
        refine g_aload X62 hx (hb hby at_347) rfl rfl rfl ?_
        refine g_iload X62 hx (hb hby at_349) rfl rfl ?_
        refine g_baload X62 hx hZ eh62 p54_1 (v := (.int (own_T (((16 : Int32) + v4) + v14) (own_G p0 p1 p2 p3 (fun j => own_abN j v4.toNatClampNeg v35.toNatClampNeg v70 v79 v88) (fun j => own_abN j v14.toNatClampNeg (0 : Int32).toNatClampNeg v97 v106 v115) v4.toNatClampNeg) v265.toNatClampNeg))) (own_kr hv265 htot) (hdg_54 _ (own_nat (own_kr hv265 htot).1 (own_kr hv265 htot).2)) (hb hby at_351) rfl ?_
        refine g_iload X62 hx (hb hby at_352) rfl rfl ?_
        have hc354 : (own_T (((16 : Int32) + v4) + v14) (own_G p0 p1 p2 p3 (fun j => own_abN j v4.toNatClampNeg v35.toNatClampNeg v70 v79 v88) (fun j => own_abN j v14.toNatClampNeg (0 : Int32).toNatClampNeg v97 v106 v115) v4.toNatClampNeg) v265.toNatClampNeg) = (own_hb v265 (((16 : Int32) + v4) + v14) p0 p1 p2 p3) := own_fin1 (own_kr hv265 htot).1 hc272
        refine g_icmpN X62 hx (hb hby at_354) rfl (XT.ii_ne_f hc354) ?_
        refine g_iconst X62 hx (r := (1 : Int32)) (hb hby at_357) rfl rfl ?_
        refine g_goto X62 hx (q := 362) (hb hby at_358) (by decide) (by decide) ?_
        exact g_retN X62 hx (t := .boolean) (r := (1 : Int32)) hret (by simp) hlk (hb hby at_362) rfl (by decide) (by decide) (by rw [eh62]; exact ⟨rfl, N62⟩)
      · skip
        refine g_icmpY X54 hx (q := 291) (hb hby at_272) (XT.ii_ge_t hc272) (by decide) (by decide) ?_
        refine g_iload X54 hx (hb hby at_291) rfl rfl ?_
        refine g_bipush X54 hx (r := (16 : Int32)) (hb hby at_293) rfl rfl ?_
        refine g_iload X54 hx (hb hby at_295) rfl rfl ?_
        refine g_iadd X54 hx (hb hby at_297) rfl rfl ?_
        by_cases hc298 : v265 < ((16 : Int32) + v4)
        · skip
          refine g_icmpN X54 hx (hb hby at_298) rfl (XT.ii_ge_f hc298) ?_
          refine g_iload X54 hx (hb hby at_301) rfl rfl ?_
          refine g_bipush X54 hx (r := (16 : Int32)) (hb hby at_303) rfl rfl ?_
          refine g_isub X54 hx (hb hby at_305) rfl rfl ?_
          refine g_iload X54 hx (hb hby at_306) rfl rfl ?_
          refine g_iload X54 hx (hb hby at_308) rfl rfl ?_
          refine g_iload X54 hx (hb hby at_310) rfl rfl ?_
          refine g_iload X54 hx (hb hby at_312) rfl rfl ?_
          refine g_iload X54 hx (hb hby at_314) rfl rfl ?_
          refine g_static X54 hx hZ hown (hw _ (List.mem_of_getElem? (i := 89) rfl)) (hw _ (List.mem_of_getElem? (i := 90) rfl)) (hw _ (List.mem_of_getElem? (i := 87) rfl)) (hw _ (List.mem_of_getElem? (i := 91) rfl)) (by decide) (rm_arb l Z a0 hw (v265 - (16 : Int32)) v4 v35 v70 v79 v88 T54.heap n0 Z54 hb70 hb79 hb88) (by rw [hml]; rfl) rfl [(.int (v265 - (16 : Int32))), (.int v4), (.int v35), (.int v70), (.int v79), (.int v88)] rfl rfl (W := 0) (Nat.le_of_eq rfl) (by decide) (by decide) (by decide) (by decide) (lenOf pd_11 rfl) (hb hby at_316) rfl fun v63 T63 L63 X63 hQ63 => ?_
          obtain ⟨rfl, Nq63, eh63⟩ := hQ63
          have N63 := Fr.app N54 Nq63
          show Ga _ _ _ _ _ _ _ _ _ _ _ [(.int (own_ab (v265 - (16 : Int32)) v4 v35 v70 v79 v88))]
          refine g_istore X63 hx (Ls' := #[.val (.int p0), .val (.int p1), .val (.int p2), .val (.int p3), .val (.long p4), .second, .val (.int p5), .val (.int v4), .val (.int v14), .val (.int v35), .val (.int (0 : Int32)), .val (.int v70), .val (.int v79), .val (.int v88), .val (.int v97), .val (.int v106), .val (.int v115), .val (.ref b35), .val (.ref b36), .val (.ref b41), .val (.ref b41), .val (.ref b41), .val (.ref d_54), .val (.int (((16 : Int32) + v4) + v14)), .val (.int v265), .val (.int (own_ab (v265 - (16 : Int32)) v4 v35 v70 v79 v88))]) (hb hby at_319) rfl rfl ?_
          refine g_goto X63 hx (q := 347) (hb hby at_321) (by decide) (by decide) ?_
          refine g_aload X63 hx (hb hby at_347) rfl rfl rfl ?_
          refine g_iload X63 hx (hb hby at_349) rfl rfl ?_
          refine g_baload X63 hx hZ eh63 p54_1 (v := (.int (own_T (((16 : Int32) + v4) + v14) (own_G p0 p1 p2 p3 (fun j => own_abN j v4.toNatClampNeg v35.toNatClampNeg v70 v79 v88) (fun j => own_abN j v14.toNatClampNeg (0 : Int32).toNatClampNeg v97 v106 v115) v4.toNatClampNeg) v265.toNatClampNeg))) (own_kr hv265 htot) (hdg_54 _ (own_nat (own_kr hv265 htot).1 (own_kr hv265 htot).2)) (hb hby at_351) rfl ?_
          refine g_iload X63 hx (hb hby at_352) rfl rfl ?_
          have hc354 : (own_T (((16 : Int32) + v4) + v14) (own_G p0 p1 p2 p3 (fun j => own_abN j v4.toNatClampNeg v35.toNatClampNeg v70 v79 v88) (fun j => own_abN j v14.toNatClampNeg (0 : Int32).toNatClampNeg v97 v106 v115) v4.toNatClampNeg) v265.toNatClampNeg) = (own_ab (v265 - (16 : Int32)) v4 v35 v70 v79 v88) := own_fin2 hc272 hc298 n4.2.2.2.1 n4.2.2.1 (own_pr hv35 hc19 n4.2.2.1).1
          refine g_icmpN X63 hx (hb hby at_354) rfl (XT.ii_ne_f hc354) ?_
          refine g_iconst X63 hx (r := (1 : Int32)) (hb hby at_357) rfl rfl ?_
          refine g_goto X63 hx (q := 362) (hb hby at_358) (by decide) (by decide) ?_
          exact g_retN X63 hx (t := .boolean) (r := (1 : Int32)) hret (by simp) hlk (hb hby at_362) rfl (by decide) (by decide) (by rw [eh63]; exact ⟨rfl, N63⟩)
        · skip
          refine g_icmpY X54 hx (q := 324) (hb hby at_298) (XT.ii_ge_t hc298) (by decide) (by decide) ?_
          refine g_iload X54 hx (hb hby at_324) rfl rfl ?_
          refine g_bipush X54 hx (r := (16 : Int32)) (hb hby at_326) rfl rfl ?_
          refine g_isub X54 hx (hb hby at_328) rfl rfl ?_
          refine g_iload X54 hx (hb hby at_329) rfl rfl ?_
          refine g_isub X54 hx (hb hby at_331) rfl rfl ?_
          refine g_iload X54 hx (hb hby at_332) rfl rfl ?_
          refine g_iload X54 hx (hb hby at_334) rfl rfl ?_
          refine g_iload X54 hx (hb hby at_336) rfl rfl ?_
          refine g_iload X54 hx (hb hby at_338) rfl rfl ?_
          refine g_iload X54 hx (hb hby at_340) rfl rfl ?_
          refine g_static X54 hx hZ hown (hw _ (List.mem_of_getElem? (i := 89) rfl)) (hw _ (List.mem_of_getElem? (i := 90) rfl)) (hw _ (List.mem_of_getElem? (i := 87) rfl)) (hw _ (List.mem_of_getElem? (i := 91) rfl)) (by decide) (rm_arb l Z a0 hw ((v265 - (16 : Int32)) - v4) v14 (0 : Int32) v97 v106 v115 T54.heap n0 Z54 hb97 hb106 hb115) (by rw [hml]; rfl) rfl [(.int ((v265 - (16 : Int32)) - v4)), (.int v14), (.int (0 : Int32)), (.int v97), (.int v106), (.int v115)] rfl rfl (W := 0) (Nat.le_of_eq rfl) (by decide) (by decide) (by decide) (by decide) (lenOf pd_11 rfl) (hb hby at_342) rfl fun v64 T64 L64 X64 hQ64 => ?_
          obtain ⟨rfl, Nq64, eh64⟩ := hQ64
          have N64 := Fr.app N54 Nq64
          show Ga _ _ _ _ _ _ _ _ _ _ _ [(.int (own_ab ((v265 - (16 : Int32)) - v4) v14 (0 : Int32) v97 v106 v115))]
          refine g_istore X64 hx (Ls' := #[.val (.int p0), .val (.int p1), .val (.int p2), .val (.int p3), .val (.long p4), .second, .val (.int p5), .val (.int v4), .val (.int v14), .val (.int v35), .val (.int (0 : Int32)), .val (.int v70), .val (.int v79), .val (.int v88), .val (.int v97), .val (.int v106), .val (.int v115), .val (.ref b35), .val (.ref b36), .val (.ref b41), .val (.ref b41), .val (.ref b41), .val (.ref d_54), .val (.int (((16 : Int32) + v4) + v14)), .val (.int v265), .val (.int (own_ab ((v265 - (16 : Int32)) - v4) v14 (0 : Int32) v97 v106 v115))]) (hb hby at_345) rfl rfl ?_
          refine g_aload X64 hx (hb hby at_347) rfl rfl rfl ?_
          refine g_iload X64 hx (hb hby at_349) rfl rfl ?_
          refine g_baload X64 hx hZ eh64 p54_1 (v := (.int (own_T (((16 : Int32) + v4) + v14) (own_G p0 p1 p2 p3 (fun j => own_abN j v4.toNatClampNeg v35.toNatClampNeg v70 v79 v88) (fun j => own_abN j v14.toNatClampNeg (0 : Int32).toNatClampNeg v97 v106 v115) v4.toNatClampNeg) v265.toNatClampNeg))) (own_kr hv265 htot) (hdg_54 _ (own_nat (own_kr hv265 htot).1 (own_kr hv265 htot).2)) (hb hby at_351) rfl ?_
          refine g_iload X64 hx (hb hby at_352) rfl rfl ?_
          have hc354 : (own_T (((16 : Int32) + v4) + v14) (own_G p0 p1 p2 p3 (fun j => own_abN j v4.toNatClampNeg v35.toNatClampNeg v70 v79 v88) (fun j => own_abN j v14.toNatClampNeg (0 : Int32).toNatClampNeg v97 v106 v115) v4.toNatClampNeg) v265.toNatClampNeg) = (own_ab ((v265 - (16 : Int32)) - v4) v14 (0 : Int32) v97 v106 v115) := own_fin3 hc272 hc298 (own_kr hv265 htot).2 n4.2.2.2.1 n4.2.2.1 n14.2.2.2.1 n14.2.2.1 (by decide)
          refine g_icmpN X64 hx (hb hby at_354) rfl (XT.ii_ne_f hc354) ?_
          refine g_iconst X64 hx (r := (1 : Int32)) (hb hby at_357) rfl rfl ?_
          refine g_goto X64 hx (q := 362) (hb hby at_358) (by decide) (by decide) ?_
          exact g_retN X64 hx (t := .boolean) (r := (1 : Int32)) hret (by simp) hlk (hb hby at_362) rfl (by decide) (by decide) (by rw [eh64]; exact ⟨rfl, N64⟩)
  · skip
    refine g_ifY X0 hx (q := 39) (hb hby at_19) (XT.i0_le_t hc19) (by decide) (by decide) ?_
    refine g_iconst X0 hx (r := (0 : Int32)) (hb hby at_39) rfl rfl ?_
    refine g_istore X0 hx (Ls' := #[.val (.int p0), .val (.int p1), .val (.int p2), .val (.int p3), .val (.long p4), .second, .val (.int p5), .val (.int v4), .val (.int v14), .val (.int (0 : Int32)), .unset, .unset, .unset, .unset, .unset, .unset, .unset, .unset, .unset, .unset, .unset, .unset, .unset, .unset, .unset, .unset]) (hb hby at_40) rfl rfl ?_
    refine g_iload X0 hx (hb hby at_42) rfl rfl ?_
    by_cases hc44 : (0 : Int32) < v14
    · skip
      refine g_ifN X0 hx (hb hby at_44) rfl (XT.i0_le_f hc44) ?_
      refine g_lload X0 hx (hb hby at_47) rfl rfl ?_
      refine g_bipush X0 hx (r := (56 : Int32)) (hb hby at_49) rfl rfl ?_
      refine g_lushr X0 hx (hb hby at_51) rfl rfl ?_
      refine g_ldc2 X0 hx hZ hown (hw _ (List.mem_of_getElem? (i := 0) rfl)) (hb hby at_52) rfl ?_
      refine g_land X0 hx (hb hby at_55) rfl rfl ?_
      refine g_iload X0 hx (hb hby at_56) rfl rfl ?_
      refine g_i2l X0 hx (hb hby at_58) rfl rfl ?_
      refine g_lrem X0 hx (hb hby at_59) rfl (own_nz64 hc44) rfl ?_
      obtain ⟨v60, hv60⟩ : ∃ r, (((((p4.toUInt64 >>> ((56 : Int32) &&& 0x3f).toInt64.toUInt64).toInt64) &&& (255 : Int64)) % (v14.toInt64)).toInt32) = r := ⟨_, rfl⟩
      refine g_l2i X0 hx (hb hby at_60) rfl hv60 ?_
      refine g_goto X0 hx (q := 65) (hb hby at_61) (by decide) (by decide) ?_
      refine g_istore X0 hx (Ls' := #[.val (.int p0), .val (.int p1), .val (.int p2), .val (.int p3), .val (.long p4), .second, .val (.int p5), .val (.int v4), .val (.int v14), .val (.int (0 : Int32)), .val (.int v60), .unset, .unset, .unset, .unset, .unset, .unset, .unset, .unset, .unset, .unset, .unset, .unset, .unset, .unset, .unset]) (hb hby at_65) rfl rfl ?_
      refine g_lload X0 hx (hb hby at_67) rfl rfl ?_
      refine g_l2i X0 hx (hb hby at_69) rfl rfl ?_
      obtain ⟨v70, hv70⟩ : ∃ r, ((p4.toInt32).toInt8.toInt32) = r := ⟨_, rfl⟩
      refine g_i2b X0 hx (hb hby at_70) rfl hv70 ?_
      refine g_istore X0 hx (Ls' := #[.val (.int p0), .val (.int p1), .val (.int p2), .val (.int p3), .val (.long p4), .second, .val (.int p5), .val (.int v4), .val (.int v14), .val (.int (0 : Int32)), .val (.int v60), .val (.int v70), .unset, .unset, .unset, .unset, .unset, .unset, .unset, .unset, .unset, .unset, .unset, .unset, .unset, .unset]) (hb hby at_71) rfl rfl ?_
      refine g_lload X0 hx (hb hby at_73) rfl rfl ?_
      refine g_bipush X0 hx (r := (8 : Int32)) (hb hby at_75) rfl rfl ?_
      refine g_lushr X0 hx (hb hby at_77) rfl rfl ?_
      refine g_l2i X0 hx (hb hby at_78) rfl rfl ?_
      obtain ⟨v79, hv79⟩ : ∃ r, ((((p4.toUInt64 >>> ((8 : Int32) &&& 0x3f).toInt64.toUInt64).toInt64).toInt32).toInt8.toInt32) = r := ⟨_, rfl⟩
      refine g_i2b X0 hx (hb hby at_79) rfl hv79 ?_
      refine g_istore X0 hx (Ls' := #[.val (.int p0), .val (.int p1), .val (.int p2), .val (.int p3), .val (.long p4), .second, .val (.int p5), .val (.int v4), .val (.int v14), .val (.int (0 : Int32)), .val (.int v60), .val (.int v70), .val (.int v79), .unset, .unset, .unset, .unset, .unset, .unset, .unset, .unset, .unset, .unset, .unset, .unset, .unset]) (hb hby at_80) rfl rfl ?_
      refine g_lload X0 hx (hb hby at_82) rfl rfl ?_
      refine g_bipush X0 hx (r := (16 : Int32)) (hb hby at_84) rfl rfl ?_
      refine g_lushr X0 hx (hb hby at_86) rfl rfl ?_
      refine g_l2i X0 hx (hb hby at_87) rfl rfl ?_
      obtain ⟨v88, hv88⟩ : ∃ r, ((((p4.toUInt64 >>> ((16 : Int32) &&& 0x3f).toInt64.toUInt64).toInt64).toInt32).toInt8.toInt32) = r := ⟨_, rfl⟩
      refine g_i2b X0 hx (hb hby at_88) rfl hv88 ?_
      refine g_istore X0 hx (Ls' := #[.val (.int p0), .val (.int p1), .val (.int p2), .val (.int p3), .val (.long p4), .second, .val (.int p5), .val (.int v4), .val (.int v14), .val (.int (0 : Int32)), .val (.int v60), .val (.int v70), .val (.int v79), .val (.int v88), .unset, .unset, .unset, .unset, .unset, .unset, .unset, .unset, .unset, .unset, .unset, .unset]) (hb hby at_89) rfl rfl ?_
      refine g_lload X0 hx (hb hby at_91) rfl rfl ?_
      refine g_bipush X0 hx (r := (24 : Int32)) (hb hby at_93) rfl rfl ?_
      refine g_lushr X0 hx (hb hby at_95) rfl rfl ?_
      refine g_l2i X0 hx (hb hby at_96) rfl rfl ?_
      obtain ⟨v97, hv97⟩ : ∃ r, ((((p4.toUInt64 >>> ((24 : Int32) &&& 0x3f).toInt64.toUInt64).toInt64).toInt32).toInt8.toInt32) = r := ⟨_, rfl⟩
      refine g_i2b X0 hx (hb hby at_97) rfl hv97 ?_
      refine g_istore X0 hx (Ls' := #[.val (.int p0), .val (.int p1), .val (.int p2), .val (.int p3), .val (.long p4), .second, .val (.int p5), .val (.int v4), .val (.int v14), .val (.int (0 : Int32)), .val (.int v60), .val (.int v70), .val (.int v79), .val (.int v88), .val (.int v97), .unset, .unset, .unset, .unset, .unset, .unset, .unset, .unset, .unset, .unset, .unset]) (hb hby at_98) rfl rfl ?_
      refine g_lload X0 hx (hb hby at_100) rfl rfl ?_
      refine g_bipush X0 hx (r := (32 : Int32)) (hb hby at_102) rfl rfl ?_
      refine g_lushr X0 hx (hb hby at_104) rfl rfl ?_
      refine g_l2i X0 hx (hb hby at_105) rfl rfl ?_
      obtain ⟨v106, hv106⟩ : ∃ r, ((((p4.toUInt64 >>> ((32 : Int32) &&& 0x3f).toInt64.toUInt64).toInt64).toInt32).toInt8.toInt32) = r := ⟨_, rfl⟩
      refine g_i2b X0 hx (hb hby at_106) rfl hv106 ?_
      refine g_istore X0 hx (Ls' := #[.val (.int p0), .val (.int p1), .val (.int p2), .val (.int p3), .val (.long p4), .second, .val (.int p5), .val (.int v4), .val (.int v14), .val (.int (0 : Int32)), .val (.int v60), .val (.int v70), .val (.int v79), .val (.int v88), .val (.int v97), .val (.int v106), .unset, .unset, .unset, .unset, .unset, .unset, .unset, .unset, .unset, .unset]) (hb hby at_107) rfl rfl ?_
      refine g_lload X0 hx (hb hby at_109) rfl rfl ?_
      refine g_bipush X0 hx (r := (40 : Int32)) (hb hby at_111) rfl rfl ?_
      refine g_lushr X0 hx (hb hby at_113) rfl rfl ?_
      refine g_l2i X0 hx (hb hby at_114) rfl rfl ?_
      obtain ⟨v115, hv115⟩ : ∃ r, ((((p4.toUInt64 >>> ((40 : Int32) &&& 0x3f).toInt64.toUInt64).toInt64).toInt32).toInt8.toInt32) = r := ⟨_, rfl⟩
      refine g_i2b X0 hx (hb hby at_115) rfl hv115 ?_
      refine g_istore X0 hx (Ls' := #[.val (.int p0), .val (.int p1), .val (.int p2), .val (.int p3), .val (.long p4), .second, .val (.int p5), .val (.int v4), .val (.int v14), .val (.int (0 : Int32)), .val (.int v60), .val (.int v70), .val (.int v79), .val (.int v88), .val (.int v97), .val (.int v106), .val (.int v115), .unset, .unset, .unset, .unset, .unset, .unset, .unset, .unset, .unset]) (hb hby at_116) rfl rfl ?_
      have hb70 : v70.toInt8.toInt32 = v70 := by rw [← hv70]; exact own_bb _
      have hb79 : v79.toInt8.toInt32 = v79 := by rw [← hv79]; exact own_bb _
      have hb88 : v88.toInt8.toInt32 = v88 := by rw [← hv88]; exact own_bb _
      have hb97 : v97.toInt8.toInt32 = v97 := by rw [← hv97]; exact own_bb _
      have hb106 : v106.toInt8.toInt32 = v106 := by rw [← hv106]; exact own_bb _
      have hb115 : v115.toInt8.toInt32 = v115 := by rw [← hv115]; exact own_bb _
      have hGb : ∀ j, ((own_G p0 p1 p2 p3 (fun j => own_abN j v4.toNatClampNeg (0 : Int32).toNatClampNeg v70 v79 v88) (fun j => own_abN j v14.toNatClampNeg v60.toNatClampNeg v97 v106 v115) v4.toNatClampNeg) j).toInt8.toInt32 = (own_G p0 p1 p2 p3 (fun j => own_abN j v4.toNatClampNeg (0 : Int32).toNatClampNeg v70 v79 v88) (fun j => own_abN j v14.toNatClampNeg v60.toNatClampNeg v97 v106 v115) v4.toNatClampNeg) j := own_Gb (own_abNb hb70 hb79 hb88) (own_abNb hb97 hb106 hb115)
      refine g_iload X0 hx (hb hby at_118) rfl rfl ?_
      refine g_newarray X0 hx hZ (aty := .byte) (hw _ (List.mem_of_getElem? (i := 1) rfl)) e0 n4.1 63 n4.2.1 (by decide) (by decide) (by decide) (ad := "[B") (by decide) (hb hby at_120) rfl fun T65 h65 b65 ka65 X65 e65 q65 E65 A65 V65 => ?_
      have g_b65 : n0 ≤ b65 := Nat.le_trans Z0 (Nat.le_of_eq q65.symm)
      have Z65 : n0 ≤ h65.size := Nat.le_trans Z0 E65.1
      have Vn65 : Arv Z h65 b65 ka65 .byte v4 (List.replicate 63 (.int (0 : Int32))) (.int (0 : Int32)) := V65
      refine g_astore X65 hx (Ls' := #[.val (.int p0), .val (.int p1), .val (.int p2), .val (.int p3), .val (.long p4), .second, .val (.int p5), .val (.int v4), .val (.int v14), .val (.int (0 : Int32)), .val (.int v60), .val (.int v70), .val (.int v79), .val (.int v88), .val (.int v97), .val (.int v106), .val (.int v115), .val (.ref b65), .unset, .unset, .unset, .unset, .unset, .unset, .unset, .unset]) (hb hby at_122) rfl rfl rfl ?_
      refine g_iload X65 hx (hb hby at_124) rfl rfl ?_
      refine g_newarray X65 hx hZ (aty := .byte) (hw _ (List.mem_of_getElem? (i := 1) rfl)) e65 n14.1 63 n14.2.1 (by decide) (by decide) (by decide) (ad := "[B") (by decide) (hb hby at_126) rfl fun T66 h66 b66 ka66 X66 e66 q66 E66 A66 V66 => ?_
      have ne_b65_b66 : b65 ≠ b66 := own_ne Vn65.lt q66
      have g_b66 : n0 ≤ b66 := Nat.le_trans Z65 (Nat.le_of_eq q66.symm)
      have Z66 : n0 ≤ h66.size := Nat.le_trans Z65 E66.1
      have Vn66 : Arv Z h66 b66 ka66 .byte v14 (List.replicate 63 (.int (0 : Int32))) (.int (0 : Int32)) := V66
      refine g_astore X66 hx (Ls' := #[.val (.int p0), .val (.int p1), .val (.int p2), .val (.int p3), .val (.long p4), .second, .val (.int p5), .val (.int v4), .val (.int v14), .val (.int (0 : Int32)), .val (.int v60), .val (.int v70), .val (.int v79), .val (.int v88), .val (.int v97), .val (.int v106), .val (.int v115), .val (.ref b65), .val (.ref b66), .unset, .unset, .unset, .unset, .unset, .unset, .unset]) (hb hby at_128) rfl rfl rfl ?_
      refine g_iload X66 hx (hb hby at_130) rfl rfl ?_
      have hc132 : ¬ (0 : Int32) < v4 := hc19
      refine g_ifY X66 hx (q := 157) (hb hby at_132) (XT.i0_le_t hc132) (by decide) (by decide) ?_
      refine g_iload X66 hx (hb hby at_157) rfl rfl ?_
      have hc159 : (0 : Int32) < v14 := hc44
      refine g_ifN X66 hx (hb hby at_159) rfl (XT.i0_le_f hc159) ?_
      refine g_aload X66 hx (hb hby at_162) rfl rfl rfl ?_
      refine g_iload X66 hx (hb hby at_164) rfl rfl ?_
      refine g_iload X66 hx (hb hby at_166) rfl rfl ?_
      refine g_bastore X66 hx hZ e66 Vn66 (own_pr hv60 hc44 n14.2.2.1) (by simp only [List.length_set, List.length_replicate]; exact own_63 (own_pr hv60 hc44 n14.2.2.1).1 (own_pr hv60 hc44 n14.2.2.1).2 n14.2.1) (hb hby at_168) rfl fun T67 h67 X67 e67 W67 V67 => ?_
      rw [own_nar, hb115] at V67
      have Vn67 : Arv Z h67 b66 ka66 .byte v14 (List.set (List.replicate 63 (.int (0 : Int32))) (v60).toNatClampNeg (.int v115)) (.int (0 : Int32)) := V67
      have N67 := Fr.snoc X67 N0 g_b66
      have Z67 : n0 ≤ h67.size := by rw [W67.size]; exact Z66
      refine g_aload X67 hx (hb hby at_169) rfl rfl rfl ?_
      refine g_iconst X67 hx (r := (0 : Int32)) (hb hby at_171) rfl rfl ?_
      refine g_iload X67 hx (hb hby at_172) rfl rfl ?_
      refine g_bastore X67 hx hZ e67 Vn67 ⟨by decide, hc44⟩ (by simp only [List.length_set, List.length_replicate]; exact own_63 (by decide) hc44 n14.2.1) (hb hby at_174) rfl fun T68 h68 X68 e68 W68 V68 => ?_
      rw [own_nar, hb97] at V68
      have Vn68 : Arv Z h68 b66 ka66 .byte v14 (List.set (List.set (List.replicate 63 (.int (0 : Int32))) (v60).toNatClampNeg (.int v115)) ((0 : Int32)).toNatClampNeg (.int v97)) (.int (0 : Int32)) := V68
      have N68 := Fr.snoc X68 N67 g_b66
      have Z68 : n0 ≤ h68.size := by rw [W68.size]; exact Z67
      refine g_aload X68 hx (hb hby at_175) rfl rfl rfl ?_
      refine g_iload X68 hx (hb hby at_177) rfl rfl ?_
      refine g_iconst X68 hx (r := (1 : Int32)) (hb hby at_179) rfl rfl ?_
      refine g_isub X68 hx (hb hby at_180) rfl rfl ?_
      refine g_iload X68 hx (hb hby at_181) rfl rfl ?_
      refine g_bastore X68 hx hZ e68 Vn68 ⟨(own_m1 hc44).1, (own_m1 hc44).2.1⟩ (by simp only [List.length_set, List.length_replicate]; exact own_63 (own_m1 hc44).1 (own_m1 hc44).2.1 n14.2.1) (hb hby at_183) rfl fun T69 h69 X69 e69 W69 V69 => ?_
      rw [own_nar, hb106] at V69
      have Vn69 : Arv Z h69 b66 ka66 .byte v14 (List.set (List.set (List.set (List.replicate 63 (.int (0 : Int32))) (v60).toNatClampNeg (.int v115)) ((0 : Int32)).toNatClampNeg (.int v97)) ((v14 - (1 : Int32))).toNatClampNeg (.int v106)) (.int (0 : Int32)) := V69
      have N69 := Fr.snoc X69 N68 g_b66
      have Z69 : n0 ≤ h69.size := by rw [W69.size]; exact Z68
      have f71 : Arv Z h69 b65 ka65 .byte v4 (List.replicate 63 (.int (0 : Int32))) (.int (0 : Int32)) := ((((Vn65.ext E66).other W67 ne_b65_b66).other W68 ne_b65_b66).other W69 ne_b65_b66)
      refine g_new X69 hx hZ hown (hw _ (List.mem_of_getElem? (i := 2) rfl)) (hw _ (List.mem_of_getElem? (i := 3) rfl)) (hw _ (List.mem_of_getElem? (i := 4) rfl)) e69 (hb hby at_184) rfl (by decide) (by decide) fun T70 h70 b70 X70 e70 q70 E70 A70 D70 => ?_
      have ne_b65_b70 : b65 ≠ b70 := own_ne f71.lt q70
      have ne_b66_b70 : b66 ≠ b70 := own_ne Vn69.lt q70
      have g_b70 : n0 ≤ b70 := Nat.le_trans Z69 (Nat.le_of_eq q70.symm)
      have Z70 : n0 ≤ h70.size := Nat.le_trans Z69 E70.1
      have F70_bytes : Fld Z h70 b70 "com/example/glowworm/glowworm/NetlinkWriter" "bytes" "[B" .null := D70 (Or.inl (hw _ (List.mem_of_getElem? (i := 12) rfl))) (ty := (.array .byte)) (by decide)
      have F70_openNests : Fld Z h70 b70 "com/example/glowworm/glowworm/NetlinkWriter" "openNests" "Ljava/util/Deque;" .null := D70 (Or.inr (hw _ (List.mem_of_getElem? (i := 31) rfl))) (ty := (.object "java/util/Deque")) (by decide)
      have F70_length : Fld Z h70 b70 "com/example/glowworm/glowworm/NetlinkWriter" "length" "I" (.int (0 : Int32)) := D70 (Or.inl (hw _ (List.mem_of_getElem? (i := 45) rfl))) (ty := .int) (by decide)
      refine g_dup X70 hx (hb hby at_187) rfl rfl ?_
      refine g_iloadN X70 hx (hb hby at_188) rfl rfl ?_
      refine g_iloadN X70 hx (hb hby at_189) rfl rfl ?_
      refine g_iloadN X70 hx (hb hby at_190) rfl rfl ?_
      refine g_iloadN X70 hx (hb hby at_191) rfl rfl ?_
      refine g_special X70 hx hZ hown rfl (hw _ (List.mem_of_getElem? (i := 5) rfl)) (hw _ (List.mem_of_getElem? (i := 6) rfl)) (hw _ (List.mem_of_getElem? (i := 4) rfl)) (hw _ (List.mem_of_getElem? (i := 7) rfl)) (by decide) (a := b70) (rm_nini l Z a0 hw b70 p0 p1 p2 p3 h70 n0 Z70 F70_length F70_bytes F70_openNests A70 g_b70) (by rw [hml]; rfl) e70 [(.int p0), (.int p1), (.int p2), (.int p3)] rfl rfl (W := 1) (Nat.le_of_eq rfl) (by decide) (by decide) (by decide) (by decide) (lenOf pd_7 rfl) (hb hby at_192) rfl fun v72 T72 L72 X72 hQ72 => ?_
      obtain ⟨b_72, ka_72, dq_72, rfl, Nq72, kc72, p72_0, p72_1, p72_2, p72_3, p72_4, p72_5, p72_6, p72_7, p72_8, p72_9, p72_10, p72_11⟩ := hQ72
      have N72 := Fr.app N69 Nq72
      have f73 : Arv Z h70 b65 ka65 .byte v4 (List.replicate 63 (.int (0 : Int32))) (.int (0 : Int32)) := (f71.ext E70)
      have f74 : Arv Z h70 b66 ka66 .byte v14 (List.set (List.set (List.set (List.replicate 63 (.int (0 : Int32))) (v60).toNatClampNeg (.int v115)) ((0 : Int32)).toNatClampNeg (.int v97)) ((v14 - (1 : Int32))).toNatClampNeg (.int v106)) (.int (0 : Int32)) := (Vn69.ext E70)
      have ne_b65_b_72 : b65 ≠ b_72 := own_neK f73.lt p72_0
      have ne_b66_b_72 : b66 ≠ b_72 := own_neK f74.lt p72_0
      have ne_b70_b_72 : b70 ≠ b_72 := own_neK A70.lt p72_0
      have g_b_72 : n0 ≤ b_72 := Nat.le_trans Z70 p72_0
      have ne_b65_dq_72 : b65 ≠ dq_72 := own_neK f73.lt p72_1
      have ne_b66_dq_72 : b66 ≠ dq_72 := own_neK f74.lt p72_1
      have ne_b70_dq_72 : b70 ≠ dq_72 := own_neK A70.lt p72_1
      have g_dq_72 : n0 ≤ dq_72 := Nat.le_trans Z70 p72_1
      have Z72 : n0 ≤ T72.heap.size := Nat.le_trans Z70 kc72.1
      have pv72_10 : Arv Z T72.heap b_72 ka_72 .byte (64 : Int32) [(.int (0 : Int32)), (.int (0 : Int32)), (.int (0 : Int32)), (.int (0 : Int32)), (.int (p0.toInt8.toInt32)), (.int (((p0.toUInt32 >>> ((8 : Int32) &&& 31).toUInt32).toInt32).toInt8.toInt32)), (.int (p1.toInt8.toInt32)), (.int (((p1.toUInt32 >>> ((8 : Int32) &&& 31).toUInt32).toInt32).toInt8.toInt32)), (.int (p2.toInt8.toInt32)), (.int (((p2.toUInt32 >>> ((8 : Int32) &&& 31).toUInt32).toInt32).toInt8.toInt32)), (.int (((p2.toUInt32 >>> ((16 : Int32) &&& 31).toUInt32).toInt32).toInt8.toInt32)), (.int (((((p2.toUInt32 >>> ((16 : Int32) &&& 31).toUInt32).toInt32).toUInt32 >>> ((8 : Int32) &&& 31).toUInt32).toInt32).toInt8.toInt32)), (.int (p3.toInt8.toInt32)), (.int (((p3.toUInt32 >>> ((8 : Int32) &&& 31).toUInt32).toInt32).toInt8.toInt32)), (.int (((p3.toUInt32 >>> ((16 : Int32) &&& 31).toUInt32).toInt32).toInt8.toInt32)), (.int (((((p3.toUInt32 >>> ((16 : Int32) &&& 31).toUInt32).toInt32).toUInt32 >>> ((8 : Int32) &&& 31).toUInt32).toInt32).toInt8.toInt32)), (.int (0 : Int32)), (.int (0 : Int32)), (.int (0 : Int32)), (.int (0 : Int32)), (.int (0 : Int32)), (.int (0 : Int32)), (.int (0 : Int32)), (.int (0 : Int32)), (.int (0 : Int32)), (.int (0 : Int32)), (.int (0 : Int32)), (.int (0 : Int32)), (.int (0 : Int32)), (.int (0 : Int32)), (.int (0 : Int32)), (.int (0 : Int32)), (.int (0 : Int32)), (.int (0 : Int32)), (.int (0 : Int32)), (.int (0 : Int32)), (.int (0 : Int32)), (.int (0 : Int32)), (.int (0 : Int32)), (.int (0 : Int32)), (.int (0 : Int32)), (.int (0 : Int32)), (.int (0 : Int32)), (.int (0 : Int32)), (.int (0 : Int32)), (.int (0 : Int32)), (.int (0 : Int32)), (.int (0 : Int32)), (.int (0 : Int32)), (.int (0 : Int32)), (.int (0 : Int32)), (.int (0 : Int32)), (.int (0 : Int32)), (.int (0 : Int32)), (.int (0 : Int32)), (.int (0 : Int32)), (.int (0 : Int32)), (.int (0 : Int32)), (.int (0 : Int32)), (.int (0 : Int32)), (.int (0 : Int32)), (.int (0 : Int32)), (.int (0 : Int32)), (.int (0 : Int32))] (.int (0 : Int32)) := p72_10
      show Ga _ _ _ _ _ _ _ _ _ _ _ [(.ref b70)]
      refine g_astore X72 hx (Ls' := #[.val (.int p0), .val (.int p1), .val (.int p2), .val (.int p3), .val (.long p4), .second, .val (.int p5), .val (.int v4), .val (.int v14), .val (.int (0 : Int32)), .val (.int v60), .val (.int v70), .val (.int v79), .val (.int v88), .val (.int v97), .val (.int v106), .val (.int v115), .val (.ref b65), .val (.ref b66), .val (.ref b70), .unset, .unset, .unset, .unset, .unset, .unset]) (hb hby at_195) rfl rfl rfl ?_
      refine g_aload X72 hx (hb hby at_197) rfl rfl rfl ?_
      refine g_aload X72 hx (hb hby at_199) rfl rfl rfl ?_
      have hC16 : ∀ j, j < (16 : Int32).toNatClampNeg → ([(.int (0 : Int32)), (.int (0 : Int32)), (.int (0 : Int32)), (.int (0 : Int32)), (.int (p0.toInt8.toInt32)), (.int (((p0.toUInt32 >>> ((8 : Int32) &&& 31).toUInt32).toInt32).toInt8.toInt32)), (.int (p1.toInt8.toInt32)), (.int (((p1.toUInt32 >>> ((8 : Int32) &&& 31).toUInt32).toInt32).toInt8.toInt32)), (.int (p2.toInt8.toInt32)), (.int (((p2.toUInt32 >>> ((8 : Int32) &&& 31).toUInt32).toInt32).toInt8.toInt32)), (.int (((p2.toUInt32 >>> ((16 : Int32) &&& 31).toUInt32).toInt32).toInt8.toInt32)), (.int (((((p2.toUInt32 >>> ((16 : Int32) &&& 31).toUInt32).toInt32).toUInt32 >>> ((8 : Int32) &&& 31).toUInt32).toInt32).toInt8.toInt32)), (.int (p3.toInt8.toInt32)), (.int (((p3.toUInt32 >>> ((8 : Int32) &&& 31).toUInt32).toInt32).toInt8.toInt32)), (.int (((p3.toUInt32 >>> ((16 : Int32) &&& 31).toUInt32).toInt32).toInt8.toInt32)), (.int (((((p3.toUInt32 >>> ((16 : Int32) &&& 31).toUInt32).toInt32).toUInt32 >>> ((8 : Int32) &&& 31).toUInt32).toInt32).toInt8.toInt32)), (.int (0 : Int32)), (.int (0 : Int32)), (.int (0 : Int32)), (.int (0 : Int32)), (.int (0 : Int32)), (.int (0 : Int32)), (.int (0 : Int32)), (.int (0 : Int32)), (.int (0 : Int32)), (.int (0 : Int32)), (.int (0 : Int32)), (.int (0 : Int32)), (.int (0 : Int32)), (.int (0 : Int32)), (.int (0 : Int32)), (.int (0 : Int32)), (.int (0 : Int32)), (.int (0 : Int32)), (.int (0 : Int32)), (.int (0 : Int32)), (.int (0 : Int32)), (.int (0 : Int32)), (.int (0 : Int32)), (.int (0 : Int32)), (.int (0 : Int32)), (.int (0 : Int32)), (.int (0 : Int32)), (.int (0 : Int32)), (.int (0 : Int32)), (.int (0 : Int32)), (.int (0 : Int32)), (.int (0 : Int32)), (.int (0 : Int32)), (.int (0 : Int32)), (.int (0 : Int32)), (.int (0 : Int32)), (.int (0 : Int32)), (.int (0 : Int32)), (.int (0 : Int32)), (.int (0 : Int32)), (.int (0 : Int32)), (.int (0 : Int32)), (.int (0 : Int32)), (.int (0 : Int32)), (.int (0 : Int32)), (.int (0 : Int32)), (.int (0 : Int32)), (.int (0 : Int32))] : List Value).getD j (.int (0 : Int32)) = .int ((own_G p0 p1 p2 p3 (fun j => own_abN j v4.toNatClampNeg (0 : Int32).toNatClampNeg v70 v79 v88) (fun j => own_abN j v14.toNatClampNeg v60.toNatClampNeg v97 v106 v115) v4.toNatClampNeg) j) := fun j hj => match j, hj with | 0, _ => rfl | 1, _ => rfl | 2, _ => rfl | 3, _ => rfl | 4, _ => rfl | 5, _ => rfl | 6, _ => rfl | 7, _ => rfl | 8, _ => rfl | 9, _ => rfl | 10, _ => rfl | 11, _ => rfl | 12, _ => rfl | 13, _ => rfl | 14, _ => rfl | 15, _ => rfl | j + 16, hj => absurd hj (by simp [show (16 : Int32).toNatClampNeg = 16 from rfl])
      have f76 : Arv Z T72.heap b65 ka65 .byte v4 (List.replicate 63 (.int (0 : Int32))) (.int (0 : Int32)) := (f73.keep kc72 (ninS ne_b65_b70 nin0))
      refine g_virtual X72 hx hZ hown (hw _ (List.mem_of_getElem? (i := 46) rfl)) (hw _ (List.mem_of_getElem? (i := 47) rfl)) (notFace_of_selects (args := #[]) (mvT hZ (hw _ (List.mem_of_getElem? (i := 49) rfl)))) (hw _ (List.mem_of_getElem? (i := 49) rfl)) (hw _ (List.mem_of_getElem? (i := 48) rfl)) (hw _ (List.mem_of_getElem? (i := 4) rfl)) (hw _ (List.mem_of_getElem? (i := 50) rfl)) (by decide) (a := b70) p72_3 (rm_raw l Z a0 hw b70 b65 ka65 (List.replicate 63 (.int (0 : Int32))) v4 b_72 ka_72 dq_72 (64 : Int32) (16 : Int32) [(.int (0 : Int32)), (.int (0 : Int32)), (.int (0 : Int32)), (.int (0 : Int32)), (.int (p0.toInt8.toInt32)), (.int (((p0.toUInt32 >>> ((8 : Int32) &&& 31).toUInt32).toInt32).toInt8.toInt32)), (.int (p1.toInt8.toInt32)), (.int (((p1.toUInt32 >>> ((8 : Int32) &&& 31).toUInt32).toInt32).toInt8.toInt32)), (.int (p2.toInt8.toInt32)), (.int (((p2.toUInt32 >>> ((8 : Int32) &&& 31).toUInt32).toInt32).toInt8.toInt32)), (.int (((p2.toUInt32 >>> ((16 : Int32) &&& 31).toUInt32).toInt32).toInt8.toInt32)), (.int (((((p2.toUInt32 >>> ((16 : Int32) &&& 31).toUInt32).toInt32).toUInt32 >>> ((8 : Int32) &&& 31).toUInt32).toInt32).toInt8.toInt32)), (.int (p3.toInt8.toInt32)), (.int (((p3.toUInt32 >>> ((8 : Int32) &&& 31).toUInt32).toInt32).toInt8.toInt32)), (.int (((p3.toUInt32 >>> ((16 : Int32) &&& 31).toUInt32).toInt32).toInt8.toInt32)), (.int (((((p3.toUInt32 >>> ((16 : Int32) &&& 31).toUInt32).toInt32).toUInt32 >>> ((8 : Int32) &&& 31).toUInt32).toInt32).toInt8.toInt32)), (.int (0 : Int32)), (.int (0 : Int32)), (.int (0 : Int32)), (.int (0 : Int32)), (.int (0 : Int32)), (.int (0 : Int32)), (.int (0 : Int32)), (.int (0 : Int32)), (.int (0 : Int32)), (.int (0 : Int32)), (.int (0 : Int32)), (.int (0 : Int32)), (.int (0 : Int32)), (.int (0 : Int32)), (.int (0 : Int32)), (.int (0 : Int32)), (.int (0 : Int32)), (.int (0 : Int32)), (.int (0 : Int32)), (.int (0 : Int32)), (.int (0 : Int32)), (.int (0 : Int32)), (.int (0 : Int32)), (.int (0 : Int32)), (.int (0 : Int32)), (.int (0 : Int32)), (.int (0 : Int32)), (.int (0 : Int32)), (.int (0 : Int32)), (.int (0 : Int32)), (.int (0 : Int32)), (.int (0 : Int32)), (.int (0 : Int32)), (.int (0 : Int32)), (.int (0 : Int32)), (.int (0 : Int32)), (.int (0 : Int32)), (.int (0 : Int32)), (.int (0 : Int32)), (.int (0 : Int32)), (.int (0 : Int32)), (.int (0 : Int32)), (.int (0 : Int32)), (.int (0 : Int32)), (.int (0 : Int32)), (.int (0 : Int32)), (.int (0 : Int32)), (.int (0 : Int32))] (own_G p0 p1 p2 p3 (fun j => own_abN j v4.toNatClampNeg (0 : Int32).toNatClampNeg v70 v79 v88) (fun j => own_abN j v14.toNatClampNeg v60.toNatClampNeg v97 v106 v115) v4.toNatClampNeg) T72.heap n0 Z72 p72_7 p72_8 p72_9 pv72_10 f76 p72_3 p72_11 g_b70 g_b_72 ne_b70_b_72 ne_b65_b70 ne_b65_b_72 hGb (by decide) n4.1 (by have q := n4.2.2.1; have e : (16 : Int32).toInt = 16 := rfl; omega) (⟨rfl, by decide, by decide, Or.inl ⟨rfl, rfl, rfl⟩⟩) hC16 (own_P1 (own_non n4.2.2.2.1 hc19))) (by rw [hml]; rfl) rfl [(.ref b65)] rfl rfl (W := 0) (Nat.le_of_eq rfl) (by decide) (by decide) (by decide) (by decide) (lenOf pd_8 rfl) (hb hby at_201) rfl fun v75 T75 L75 X75 hQ75 => ?_
      obtain ⟨b2_75, k2_75, z2_75, v2_75, rfl, Nq75, kc75, p75_0, p75_1, p75_2, p75_3, p75_4, p75_5, p75_6, p75_7, p75_8, p75_9⟩ := hQ75
      have N75 := Fr.app N72 Nq75
      have f77 : Arv Z T72.heap b66 ka66 .byte v14 (List.set (List.set (List.set (List.replicate 63 (.int (0 : Int32))) (v60).toNatClampNeg (.int v115)) ((0 : Int32)).toNatClampNeg (.int v97)) ((v14 - (1 : Int32))).toNatClampNeg (.int v106)) (.int (0 : Int32)) := (f74.keep kc72 (ninS ne_b66_b70 nin0))
      have ne_b65_b2_75 : b65 ≠ b2_75 := own_nb p75_0 f76.lt ne_b65_b_72
      have ne_b66_b2_75 : b66 ≠ b2_75 := own_nb p75_0 f77.lt ne_b66_b_72
      have ne_b70_b2_75 : b70 ≠ b2_75 := own_nb p75_0 p72_3.lt ne_b70_b_72
      have ne_dq_72_b2_75 : dq_72 ≠ b2_75 := own_nb p75_0 p72_4.lt (Ne.symm p72_2)
      have g_b2_75 : n0 ≤ b2_75 := own_ng p75_0 g_b_72 Z72
      have Z75 : n0 ≤ T75.heap.size := Nat.le_trans Z72 kc75.1
      have hrm2_75 := p75_8
      have hC2_75 := p75_9
      show Ga _ _ _ _ _ _ _ _ _ _ _ [(.ref b70)]
      refine g_astore X75 hx (Ls' := #[.val (.int p0), .val (.int p1), .val (.int p2), .val (.int p3), .val (.long p4), .second, .val (.int p5), .val (.int v4), .val (.int v14), .val (.int (0 : Int32)), .val (.int v60), .val (.int v70), .val (.int v79), .val (.int v88), .val (.int v97), .val (.int v106), .val (.int v115), .val (.ref b65), .val (.ref b66), .val (.ref b70), .val (.ref b70), .unset, .unset, .unset, .unset, .unset]) (hb hby at_204) rfl rfl rfl ?_
      refine g_aload X75 hx (hb hby at_206) rfl rfl rfl ?_
      refine g_aload X75 hx (hb hby at_208) rfl rfl rfl ?_
      have f79 : Arv Z T75.heap b66 ka66 .byte v14 (List.set (List.set (List.set (List.replicate 63 (.int (0 : Int32))) (v60).toNatClampNeg (.int v115)) ((0 : Int32)).toNatClampNeg (.int v97)) ((v14 - (1 : Int32))).toNatClampNeg (.int v106)) (.int (0 : Int32)) := (f77.keep kc75 (ninS ne_b66_b70 (ninS ne_b66_b_72 nin0)))
      refine g_virtual X75 hx hZ hown (hw _ (List.mem_of_getElem? (i := 46) rfl)) (hw _ (List.mem_of_getElem? (i := 47) rfl)) (notFace_of_selects (args := #[]) (mvT hZ (hw _ (List.mem_of_getElem? (i := 49) rfl)))) (hw _ (List.mem_of_getElem? (i := 49) rfl)) (hw _ (List.mem_of_getElem? (i := 48) rfl)) (hw _ (List.mem_of_getElem? (i := 4) rfl)) (hw _ (List.mem_of_getElem? (i := 50) rfl)) (by decide) (a := b70) p75_1 (rm_raw l Z a0 hw b70 b66 ka66 (List.set (List.set (List.set (List.replicate 63 (.int (0 : Int32))) (v60).toNatClampNeg (.int v115)) ((0 : Int32)).toNatClampNeg (.int v97)) ((v14 - (1 : Int32))).toNatClampNeg (.int v106)) v14 b2_75 k2_75 dq_72 z2_75 ((16 : Int32) + v4) v2_75 (own_G p0 p1 p2 p3 (fun j => own_abN j v4.toNatClampNeg (0 : Int32).toNatClampNeg v70 v79 v88) (fun j => own_abN j v14.toNatClampNeg v60.toNatClampNeg v97 v106 v115) v4.toNatClampNeg) T75.heap n0 Z75 p75_3 p75_4 p75_5 p75_6 f79 p75_1 p75_2 g_b70 g_b2_75 p75_7 ne_b66_b70 ne_b66_b2_75 hGb ((own_1617 n4.2.2.2.1 n4.2.2.1).2.1) n14.1 (by rw [(own_1617 n4.2.2.2.1 n4.2.2.1).1]; have q := n14.2.2.1; have r := n4.2.2.1; omega) (own_RM0 hrm2_75) hC2_75 (own_P2 n4.2.2.2.1 n4.2.2.1 (own_arr hc44 n14.2.1 (own_pr hv60 hc44 n14.2.2.1).1 (own_pr hv60 hc44 n14.2.2.1).2))) (by rw [hml]; rfl) rfl [(.ref b66)] rfl rfl (W := 0) (Nat.le_of_eq rfl) (by decide) (by decide) (by decide) (by decide) (lenOf pd_8 rfl) (hb hby at_210) rfl fun v78 T78 L78 X78 hQ78 => ?_
      obtain ⟨b2_78, k2_78, z2_78, v2_78, rfl, Nq78, kc78, p78_0, p78_1, p78_2, p78_3, p78_4, p78_5, p78_6, p78_7, p78_8, p78_9⟩ := hQ78
      have N78 := Fr.app N75 Nq78
      have f80 : Arv Z T75.heap b65 ka65 .byte v4 (List.replicate 63 (.int (0 : Int32))) (.int (0 : Int32)) := (f76.keep kc75 (ninS ne_b65_b70 (ninS ne_b65_b_72 nin0)))
      have f81 : Exa Z T75.heap b_72 "[B" := (p72_11.keep kc75)
      have f82 : Exa Z T75.heap dq_72 "java/util/ArrayDeque" := (p72_4.keep kc75)
      have ne_b65_b2_78 : b65 ≠ b2_78 := own_nb p78_0 f80.lt ne_b65_b2_75
      have ne_b66_b2_78 : b66 ≠ b2_78 := own_nb p78_0 f79.lt ne_b66_b2_75
      have ne_b70_b2_78 : b70 ≠ b2_78 := own_nb p78_0 p75_1.lt p75_7
      have ne_dq_72_b2_78 : dq_72 ≠ b2_78 := own_nb p78_0 f82.lt ne_dq_72_b2_75
      have g_b2_78 : n0 ≤ b2_78 := own_ng p78_0 g_b2_75 Z75
      have Z78 : n0 ≤ T78.heap.size := Nat.le_trans Z75 kc78.1
      have hrm2_78 := p78_8
      have hC2_78 := p78_9
      show Ga _ _ _ _ _ _ _ _ _ _ _ [(.ref b70)]
      refine g_astore X78 hx (Ls' := #[.val (.int p0), .val (.int p1), .val (.int p2), .val (.int p3), .val (.long p4), .second, .val (.int p5), .val (.int v4), .val (.int v14), .val (.int (0 : Int32)), .val (.int v60), .val (.int v70), .val (.int v79), .val (.int v88), .val (.int v97), .val (.int v106), .val (.int v115), .val (.ref b65), .val (.ref b66), .val (.ref b70), .val (.ref b70), .val (.ref b70), .unset, .unset, .unset, .unset]) (hb hby at_213) rfl rfl rfl ?_
      refine g_aload X78 hx (hb hby at_215) rfl rfl rfl ?_
      have f84 : Exa Z T78.heap dq_72 "java/util/ArrayDeque" := (f82.keep kc78)
      have f85 : Fld Z T78.heap dq_72 "java/util/ArrayDeque" "head" "I" (.int (0 : Int32)) := ((p72_5.keep kc75 (ninS (Ne.symm ne_b70_dq_72) (ninS (Ne.symm p72_2) nin0))).keep kc78 (ninS (Ne.symm ne_b70_dq_72) (ninS ne_dq_72_b2_75 nin0)))
      have f86 : Fld Z T78.heap dq_72 "java/util/ArrayDeque" "tail" "I" (.int (0 : Int32)) := ((p72_6.keep kc75 (ninS (Ne.symm ne_b70_dq_72) (ninS (Ne.symm p72_2) nin0))).keep kc78 (ninS (Ne.symm ne_b70_dq_72) (ninS ne_dq_72_b2_75 nin0)))
      refine g_virtual X78 hx hZ hown (hw _ (List.mem_of_getElem? (i := 51) rfl)) (hw _ (List.mem_of_getElem? (i := 52) rfl)) (notFace_of_selects (args := #[]) (mvT hZ (hw _ (List.mem_of_getElem? (i := 54) rfl)))) (hw _ (List.mem_of_getElem? (i := 54) rfl)) (hw _ (List.mem_of_getElem? (i := 53) rfl)) (hw _ (List.mem_of_getElem? (i := 4) rfl)) (hw _ (List.mem_of_getElem? (i := 55) rfl)) (by decide) (a := b70) p78_1 (rm_tobytes l Z a0 hw b70 b2_78 dq_72 k2_78 v2_78 z2_78 (((16 : Int32) + v4) + v14) (own_G p0 p1 p2 p3 (fun j => own_abN j v4.toNatClampNeg (0 : Int32).toNatClampNeg v70 v79 v88) (fun j => own_abN j v14.toNatClampNeg v60.toNatClampNeg v97 v106 v115) v4.toNatClampNeg) T78.heap n0 Z78 p78_3 p78_4 p78_5 p78_6 p78_1 p78_2 g_b2_78 p78_7 f84 f85 f86 htt.2 hrm2_78 hC2_78) (by rw [hml]; rfl) rfl [] rfl rfl (W := 0) (Nat.le_of_eq rfl) (by decide) (by decide) (by decide) (by decide) (lenOf pd_9 rfl) (hb hby at_217) rfl fun v83 T83 L83 X83 hQ83 => ?_
      obtain ⟨d_83, kd_83, ds_83, rfl, Nq83, kc83, p83_0, p83_1, p83_2⟩ := hQ83
      have N83 := Fr.app N78 Nq83
      have f87 : Exa Z T78.heap b2_75 "[B" := (p75_2.keep kc78)
      have f88 : Arv Z T78.heap b65 ka65 .byte v4 (List.replicate 63 (.int (0 : Int32))) (.int (0 : Int32)) := (f80.keep kc78 (ninS ne_b65_b70 (ninS ne_b65_b2_75 nin0)))
      have f89 : Arv Z T78.heap b66 ka66 .byte v14 (List.set (List.set (List.set (List.replicate 63 (.int (0 : Int32))) (v60).toNatClampNeg (.int v115)) ((0 : Int32)).toNatClampNeg (.int v97)) ((v14 - (1 : Int32))).toNatClampNeg (.int v106)) (.int (0 : Int32)) := (f79.keep kc78 (ninS ne_b66_b70 (ninS ne_b66_b2_75 nin0)))
      have f90 : Exa Z T78.heap b_72 "[B" := (f81.keep kc78)
      have ne_b2_75_d_83 : b2_75 ≠ d_83 := own_neK f87.lt p83_0
      have ne_b2_78_d_83 : b2_78 ≠ d_83 := own_neK p78_2.lt p83_0
      have ne_b65_d_83 : b65 ≠ d_83 := own_neK f88.lt p83_0
      have ne_b66_d_83 : b66 ≠ d_83 := own_neK f89.lt p83_0
      have ne_b70_d_83 : b70 ≠ d_83 := own_neK p78_1.lt p83_0
      have ne_b_72_d_83 : b_72 ≠ d_83 := own_neK f90.lt p83_0
      have ne_dq_72_d_83 : dq_72 ≠ d_83 := own_neK f84.lt p83_0
      have g_d_83 : n0 ≤ d_83 := Nat.le_trans Z78 p83_0
      have Z83 : n0 ≤ T83.heap.size := Nat.le_trans Z78 kc83.1
      have hdg_83 := p83_2
      show Ga _ _ _ _ _ _ _ _ _ _ _ [(.ref d_83)]
      refine g_astore X83 hx (Ls' := #[.val (.int p0), .val (.int p1), .val (.int p2), .val (.int p3), .val (.long p4), .second, .val (.int p5), .val (.int v4), .val (.int v14), .val (.int (0 : Int32)), .val (.int v60), .val (.int v70), .val (.int v79), .val (.int v88), .val (.int v97), .val (.int v106), .val (.int v115), .val (.ref b65), .val (.ref b66), .val (.ref b70), .val (.ref b70), .val (.ref b70), .val (.ref d_83), .unset, .unset, .unset]) (hb hby at_220) rfl rfl rfl ?_
      refine g_bipush X83 hx (r := (16 : Int32)) (hb hby at_222) rfl rfl ?_
      refine g_iload X83 hx (hb hby at_224) rfl rfl ?_
      refine g_iadd X83 hx (hb hby at_226) rfl rfl ?_
      refine g_iload X83 hx (hb hby at_227) rfl rfl ?_
      refine g_iadd X83 hx (hb hby at_229) rfl rfl ?_
      refine g_istore X83 hx (Ls' := #[.val (.int p0), .val (.int p1), .val (.int p2), .val (.int p3), .val (.long p4), .second, .val (.int p5), .val (.int v4), .val (.int v14), .val (.int (0 : Int32)), .val (.int v60), .val (.int v70), .val (.int v79), .val (.int v88), .val (.int v97), .val (.int v106), .val (.int v115), .val (.ref b65), .val (.ref b66), .val (.ref b70), .val (.ref b70), .val (.ref b70), .val (.ref d_83), .val (.int (((16 : Int32) + v4) + v14)), .unset, .unset]) (hb hby at_230) rfl rfl ?_
      refine g_aload X83 hx (hb hby at_232) rfl rfl rfl ?_
      refine g_aload X83 hx (hb hby at_234) rfl rfl rfl ?_
      refine g_acmp X83 hx (q := 239) (same := true) (hb hby at_236) rfl rfl (decide_eq_true rfl) (by decide) (by decide) ?_
      refine g_aload X83 hx (hb hby at_239) rfl rfl rfl ?_
      refine g_aload X83 hx (hb hby at_241) rfl rfl rfl ?_
      refine g_acmp X83 hx (q := 248) (same := true) (hb hby at_243) rfl rfl (decide_eq_true rfl) (by decide) (by decide) ?_
      refine g_aload X83 hx (hb hby at_248) rfl rfl rfl ?_
      refine g_len X83 hx hZ rfl p83_1 (hb hby at_250) rfl ?_
      refine g_iload X83 hx (hb hby at_251) rfl rfl ?_
      refine g_icmpY X83 hx (q := 258) (hb hby at_253) (XT.ii_eq_t rfl) (by decide) (by decide) ?_
      refine g_iload X83 hx (hb hby at_258) rfl rfl ?_
      refine g_bipush X83 hx (r := (12 : Int32)) (hb hby at_260) rfl rfl ?_
      refine g_iushr X83 hx (hb hby at_262) rfl rfl ?_
      refine g_iload X83 hx (hb hby at_263) rfl rfl ?_
      obtain ⟨v265, hv265⟩ : ∃ r, (((p5.toUInt32 >>> ((12 : Int32) &&& 31).toUInt32).toInt32) % (((16 : Int32) + v4) + v14)) = r := ⟨_, rfl⟩
      refine g_irem X83 hx (hb hby at_265) rfl (own_nzt htot) hv265 ?_
      refine g_istore X83 hx (Ls' := #[.val (.int p0), .val (.int p1), .val (.int p2), .val (.int p3), .val (.long p4), .second, .val (.int p5), .val (.int v4), .val (.int v14), .val (.int (0 : Int32)), .val (.int v60), .val (.int v70), .val (.int v79), .val (.int v88), .val (.int v97), .val (.int v106), .val (.int v115), .val (.ref b65), .val (.ref b66), .val (.ref b70), .val (.ref b70), .val (.ref b70), .val (.ref d_83), .val (.int (((16 : Int32) + v4) + v14)), .val (.int v265), .unset]) (hb hby at_266) rfl rfl ?_
      refine g_iload X83 hx (hb hby at_268) rfl rfl ?_
      refine g_bipush X83 hx (r := (16 : Int32)) (hb hby at_270) rfl rfl ?_
      by_cases hc272 : v265 < (16 : Int32)
      · skip
        refine g_icmpN X83 hx (hb hby at_272) rfl (XT.ii_ge_f hc272) ?_
        refine g_iload X83 hx (hb hby at_275) rfl rfl ?_
        refine g_iload X83 hx (hb hby at_277) rfl rfl ?_
        refine g_iloadN X83 hx (hb hby at_279) rfl rfl ?_
        refine g_iloadN X83 hx (hb hby at_280) rfl rfl ?_
        refine g_iloadN X83 hx (hb hby at_281) rfl rfl ?_
        refine g_iloadN X83 hx (hb hby at_282) rfl rfl ?_
        refine g_static X83 hx hZ hown (hw _ (List.mem_of_getElem? (i := 85) rfl)) (hw _ (List.mem_of_getElem? (i := 86) rfl)) (hw _ (List.mem_of_getElem? (i := 87) rfl)) (hw _ (List.mem_of_getElem? (i := 88) rfl)) (by decide) (rm_hdb l Z a0 hw v265 (((16 : Int32) + v4) + v14) p0 p1 p2 p3 T83.heap n0 Z83) (by rw [hml]; rfl) rfl [(.int v265), (.int (((16 : Int32) + v4) + v14)), (.int p0), (.int p1), (.int p2), (.int p3)] rfl rfl (W := 0) (Nat.le_of_eq rfl) (by decide) (by decide) (by decide) (by decide) (lenOf pd_10 rfl) (hb hby at_283) rfl fun v91 T91 L91 X91 hQ91 => ?_
        obtain ⟨rfl, Nq91, eh91⟩ := hQ91
        have N91 := Fr.app N83 Nq91
        show Ga _ _ _ _ _ _ _ _ _ _ _ [(.int (own_hb v265 (((16 : Int32) + v4) + v14) p0 p1 p2 p3))]
        refine g_istore X91 hx (Ls' := #[.val (.int p0), .val (.int p1), .val (.int p2), .val (.int p3), .val (.long p4), .second, .val (.int p5), .val (.int v4), .val (.int v14), .val (.int (0 : Int32)), .val (.int v60), .val (.int v70), .val (.int v79), .val (.int v88), .val (.int v97), .val (.int v106), .val (.int v115), .val (.ref b65), .val (.ref b66), .val (.ref b70), .val (.ref b70), .val (.ref b70), .val (.ref d_83), .val (.int (((16 : Int32) + v4) + v14)), .val (.int v265), .val (.int (own_hb v265 (((16 : Int32) + v4) + v14) p0 p1 p2 p3))]) (hb hby at_286) rfl rfl ?_
        refine g_goto X91 hx (q := 347) (hb hby at_288) (by decide) (by decide) ?_
        refine g_aload X91 hx (hb hby at_347) rfl rfl rfl ?_
        refine g_iload X91 hx (hb hby at_349) rfl rfl ?_
        refine g_baload X91 hx hZ eh91 p83_1 (v := (.int (own_T (((16 : Int32) + v4) + v14) (own_G p0 p1 p2 p3 (fun j => own_abN j v4.toNatClampNeg (0 : Int32).toNatClampNeg v70 v79 v88) (fun j => own_abN j v14.toNatClampNeg v60.toNatClampNeg v97 v106 v115) v4.toNatClampNeg) v265.toNatClampNeg))) (own_kr hv265 htot) (hdg_83 _ (own_nat (own_kr hv265 htot).1 (own_kr hv265 htot).2)) (hb hby at_351) rfl ?_
        refine g_iload X91 hx (hb hby at_352) rfl rfl ?_
        have hc354 : (own_T (((16 : Int32) + v4) + v14) (own_G p0 p1 p2 p3 (fun j => own_abN j v4.toNatClampNeg (0 : Int32).toNatClampNeg v70 v79 v88) (fun j => own_abN j v14.toNatClampNeg v60.toNatClampNeg v97 v106 v115) v4.toNatClampNeg) v265.toNatClampNeg) = (own_hb v265 (((16 : Int32) + v4) + v14) p0 p1 p2 p3) := own_fin1 (own_kr hv265 htot).1 hc272
        refine g_icmpN X91 hx (hb hby at_354) rfl (XT.ii_ne_f hc354) ?_
        refine g_iconst X91 hx (r := (1 : Int32)) (hb hby at_357) rfl rfl ?_
        refine g_goto X91 hx (q := 362) (hb hby at_358) (by decide) (by decide) ?_
        exact g_retN X91 hx (t := .boolean) (r := (1 : Int32)) hret (by simp) hlk (hb hby at_362) rfl (by decide) (by decide) (by rw [eh91]; exact ⟨rfl, N91⟩)
      · skip
        refine g_icmpY X83 hx (q := 291) (hb hby at_272) (XT.ii_ge_t hc272) (by decide) (by decide) ?_
        refine g_iload X83 hx (hb hby at_291) rfl rfl ?_
        refine g_bipush X83 hx (r := (16 : Int32)) (hb hby at_293) rfl rfl ?_
        refine g_iload X83 hx (hb hby at_295) rfl rfl ?_
        refine g_iadd X83 hx (hb hby at_297) rfl rfl ?_
        by_cases hc298 : v265 < ((16 : Int32) + v4)
        · skip
          refine g_icmpN X83 hx (hb hby at_298) rfl (XT.ii_ge_f hc298) ?_
          refine g_iload X83 hx (hb hby at_301) rfl rfl ?_
          refine g_bipush X83 hx (r := (16 : Int32)) (hb hby at_303) rfl rfl ?_
          refine g_isub X83 hx (hb hby at_305) rfl rfl ?_
          refine g_iload X83 hx (hb hby at_306) rfl rfl ?_
          refine g_iload X83 hx (hb hby at_308) rfl rfl ?_
          refine g_iload X83 hx (hb hby at_310) rfl rfl ?_
          refine g_iload X83 hx (hb hby at_312) rfl rfl ?_
          refine g_iload X83 hx (hb hby at_314) rfl rfl ?_
          refine g_static X83 hx hZ hown (hw _ (List.mem_of_getElem? (i := 89) rfl)) (hw _ (List.mem_of_getElem? (i := 90) rfl)) (hw _ (List.mem_of_getElem? (i := 87) rfl)) (hw _ (List.mem_of_getElem? (i := 91) rfl)) (by decide) (rm_arb l Z a0 hw (v265 - (16 : Int32)) v4 (0 : Int32) v70 v79 v88 T83.heap n0 Z83 hb70 hb79 hb88) (by rw [hml]; rfl) rfl [(.int (v265 - (16 : Int32))), (.int v4), (.int (0 : Int32)), (.int v70), (.int v79), (.int v88)] rfl rfl (W := 0) (Nat.le_of_eq rfl) (by decide) (by decide) (by decide) (by decide) (lenOf pd_11 rfl) (hb hby at_316) rfl fun v92 T92 L92 X92 hQ92 => ?_
          obtain ⟨rfl, Nq92, eh92⟩ := hQ92
          have N92 := Fr.app N83 Nq92
          show Ga _ _ _ _ _ _ _ _ _ _ _ [(.int (own_ab (v265 - (16 : Int32)) v4 (0 : Int32) v70 v79 v88))]
          refine g_istore X92 hx (Ls' := #[.val (.int p0), .val (.int p1), .val (.int p2), .val (.int p3), .val (.long p4), .second, .val (.int p5), .val (.int v4), .val (.int v14), .val (.int (0 : Int32)), .val (.int v60), .val (.int v70), .val (.int v79), .val (.int v88), .val (.int v97), .val (.int v106), .val (.int v115), .val (.ref b65), .val (.ref b66), .val (.ref b70), .val (.ref b70), .val (.ref b70), .val (.ref d_83), .val (.int (((16 : Int32) + v4) + v14)), .val (.int v265), .val (.int (own_ab (v265 - (16 : Int32)) v4 (0 : Int32) v70 v79 v88))]) (hb hby at_319) rfl rfl ?_
          refine g_goto X92 hx (q := 347) (hb hby at_321) (by decide) (by decide) ?_
          refine g_aload X92 hx (hb hby at_347) rfl rfl rfl ?_
          refine g_iload X92 hx (hb hby at_349) rfl rfl ?_
          refine g_baload X92 hx hZ eh92 p83_1 (v := (.int (own_T (((16 : Int32) + v4) + v14) (own_G p0 p1 p2 p3 (fun j => own_abN j v4.toNatClampNeg (0 : Int32).toNatClampNeg v70 v79 v88) (fun j => own_abN j v14.toNatClampNeg v60.toNatClampNeg v97 v106 v115) v4.toNatClampNeg) v265.toNatClampNeg))) (own_kr hv265 htot) (hdg_83 _ (own_nat (own_kr hv265 htot).1 (own_kr hv265 htot).2)) (hb hby at_351) rfl ?_
          refine g_iload X92 hx (hb hby at_352) rfl rfl ?_
          have hc354 : (own_T (((16 : Int32) + v4) + v14) (own_G p0 p1 p2 p3 (fun j => own_abN j v4.toNatClampNeg (0 : Int32).toNatClampNeg v70 v79 v88) (fun j => own_abN j v14.toNatClampNeg v60.toNatClampNeg v97 v106 v115) v4.toNatClampNeg) v265.toNatClampNeg) = (own_ab (v265 - (16 : Int32)) v4 (0 : Int32) v70 v79 v88) := own_fin2 hc272 hc298 n4.2.2.2.1 n4.2.2.1 (by decide)
          refine g_icmpN X92 hx (hb hby at_354) rfl (XT.ii_ne_f hc354) ?_
          refine g_iconst X92 hx (r := (1 : Int32)) (hb hby at_357) rfl rfl ?_
          refine g_goto X92 hx (q := 362) (hb hby at_358) (by decide) (by decide) ?_
          exact g_retN X92 hx (t := .boolean) (r := (1 : Int32)) hret (by simp) hlk (hb hby at_362) rfl (by decide) (by decide) (by rw [eh92]; exact ⟨rfl, N92⟩)
        · skip
          refine g_icmpY X83 hx (q := 324) (hb hby at_298) (XT.ii_ge_t hc298) (by decide) (by decide) ?_
          refine g_iload X83 hx (hb hby at_324) rfl rfl ?_
          refine g_bipush X83 hx (r := (16 : Int32)) (hb hby at_326) rfl rfl ?_
          refine g_isub X83 hx (hb hby at_328) rfl rfl ?_
          refine g_iload X83 hx (hb hby at_329) rfl rfl ?_
          refine g_isub X83 hx (hb hby at_331) rfl rfl ?_
          refine g_iload X83 hx (hb hby at_332) rfl rfl ?_
          refine g_iload X83 hx (hb hby at_334) rfl rfl ?_
          refine g_iload X83 hx (hb hby at_336) rfl rfl ?_
          refine g_iload X83 hx (hb hby at_338) rfl rfl ?_
          refine g_iload X83 hx (hb hby at_340) rfl rfl ?_
          refine g_static X83 hx hZ hown (hw _ (List.mem_of_getElem? (i := 89) rfl)) (hw _ (List.mem_of_getElem? (i := 90) rfl)) (hw _ (List.mem_of_getElem? (i := 87) rfl)) (hw _ (List.mem_of_getElem? (i := 91) rfl)) (by decide) (rm_arb l Z a0 hw ((v265 - (16 : Int32)) - v4) v14 v60 v97 v106 v115 T83.heap n0 Z83 hb97 hb106 hb115) (by rw [hml]; rfl) rfl [(.int ((v265 - (16 : Int32)) - v4)), (.int v14), (.int v60), (.int v97), (.int v106), (.int v115)] rfl rfl (W := 0) (Nat.le_of_eq rfl) (by decide) (by decide) (by decide) (by decide) (lenOf pd_11 rfl) (hb hby at_342) rfl fun v93 T93 L93 X93 hQ93 => ?_
          obtain ⟨rfl, Nq93, eh93⟩ := hQ93
          have N93 := Fr.app N83 Nq93
          show Ga _ _ _ _ _ _ _ _ _ _ _ [(.int (own_ab ((v265 - (16 : Int32)) - v4) v14 v60 v97 v106 v115))]
          refine g_istore X93 hx (Ls' := #[.val (.int p0), .val (.int p1), .val (.int p2), .val (.int p3), .val (.long p4), .second, .val (.int p5), .val (.int v4), .val (.int v14), .val (.int (0 : Int32)), .val (.int v60), .val (.int v70), .val (.int v79), .val (.int v88), .val (.int v97), .val (.int v106), .val (.int v115), .val (.ref b65), .val (.ref b66), .val (.ref b70), .val (.ref b70), .val (.ref b70), .val (.ref d_83), .val (.int (((16 : Int32) + v4) + v14)), .val (.int v265), .val (.int (own_ab ((v265 - (16 : Int32)) - v4) v14 v60 v97 v106 v115))]) (hb hby at_345) rfl rfl ?_
          refine g_aload X93 hx (hb hby at_347) rfl rfl rfl ?_
          refine g_iload X93 hx (hb hby at_349) rfl rfl ?_
          refine g_baload X93 hx hZ eh93 p83_1 (v := (.int (own_T (((16 : Int32) + v4) + v14) (own_G p0 p1 p2 p3 (fun j => own_abN j v4.toNatClampNeg (0 : Int32).toNatClampNeg v70 v79 v88) (fun j => own_abN j v14.toNatClampNeg v60.toNatClampNeg v97 v106 v115) v4.toNatClampNeg) v265.toNatClampNeg))) (own_kr hv265 htot) (hdg_83 _ (own_nat (own_kr hv265 htot).1 (own_kr hv265 htot).2)) (hb hby at_351) rfl ?_
          refine g_iload X93 hx (hb hby at_352) rfl rfl ?_
          have hc354 : (own_T (((16 : Int32) + v4) + v14) (own_G p0 p1 p2 p3 (fun j => own_abN j v4.toNatClampNeg (0 : Int32).toNatClampNeg v70 v79 v88) (fun j => own_abN j v14.toNatClampNeg v60.toNatClampNeg v97 v106 v115) v4.toNatClampNeg) v265.toNatClampNeg) = (own_ab ((v265 - (16 : Int32)) - v4) v14 v60 v97 v106 v115) := own_fin3 hc272 hc298 (own_kr hv265 htot).2 n4.2.2.2.1 n4.2.2.1 n14.2.2.2.1 n14.2.2.1 (own_pr hv60 hc44 n14.2.2.1).1
          refine g_icmpN X93 hx (hb hby at_354) rfl (XT.ii_ne_f hc354) ?_
          refine g_iconst X93 hx (r := (1 : Int32)) (hb hby at_357) rfl rfl ?_
          refine g_goto X93 hx (q := 362) (hb hby at_358) (by decide) (by decide) ?_
          exact g_retN X93 hx (t := .boolean) (r := (1 : Int32)) hret (by simp) hlk (hb hby at_362) rfl (by decide) (by decide) (by rw [eh93]; exact ⟨rfl, N93⟩)
    · skip
      refine g_ifY X0 hx (q := 64) (hb hby at_44) (XT.i0_le_t hc44) (by decide) (by decide) ?_
      refine g_iconst X0 hx (r := (0 : Int32)) (hb hby at_64) rfl rfl ?_
      refine g_istore X0 hx (Ls' := #[.val (.int p0), .val (.int p1), .val (.int p2), .val (.int p3), .val (.long p4), .second, .val (.int p5), .val (.int v4), .val (.int v14), .val (.int (0 : Int32)), .val (.int (0 : Int32)), .unset, .unset, .unset, .unset, .unset, .unset, .unset, .unset, .unset, .unset, .unset, .unset, .unset, .unset, .unset]) (hb hby at_65) rfl rfl ?_
      refine g_lload X0 hx (hb hby at_67) rfl rfl ?_
      refine g_l2i X0 hx (hb hby at_69) rfl rfl ?_
      obtain ⟨v70, hv70⟩ : ∃ r, ((p4.toInt32).toInt8.toInt32) = r := ⟨_, rfl⟩
      refine g_i2b X0 hx (hb hby at_70) rfl hv70 ?_
      refine g_istore X0 hx (Ls' := #[.val (.int p0), .val (.int p1), .val (.int p2), .val (.int p3), .val (.long p4), .second, .val (.int p5), .val (.int v4), .val (.int v14), .val (.int (0 : Int32)), .val (.int (0 : Int32)), .val (.int v70), .unset, .unset, .unset, .unset, .unset, .unset, .unset, .unset, .unset, .unset, .unset, .unset, .unset, .unset]) (hb hby at_71) rfl rfl ?_
      refine g_lload X0 hx (hb hby at_73) rfl rfl ?_
      refine g_bipush X0 hx (r := (8 : Int32)) (hb hby at_75) rfl rfl ?_
      refine g_lushr X0 hx (hb hby at_77) rfl rfl ?_
      refine g_l2i X0 hx (hb hby at_78) rfl rfl ?_
      obtain ⟨v79, hv79⟩ : ∃ r, ((((p4.toUInt64 >>> ((8 : Int32) &&& 0x3f).toInt64.toUInt64).toInt64).toInt32).toInt8.toInt32) = r := ⟨_, rfl⟩
      refine g_i2b X0 hx (hb hby at_79) rfl hv79 ?_
      refine g_istore X0 hx (Ls' := #[.val (.int p0), .val (.int p1), .val (.int p2), .val (.int p3), .val (.long p4), .second, .val (.int p5), .val (.int v4), .val (.int v14), .val (.int (0 : Int32)), .val (.int (0 : Int32)), .val (.int v70), .val (.int v79), .unset, .unset, .unset, .unset, .unset, .unset, .unset, .unset, .unset, .unset, .unset, .unset, .unset]) (hb hby at_80) rfl rfl ?_
      refine g_lload X0 hx (hb hby at_82) rfl rfl ?_
      refine g_bipush X0 hx (r := (16 : Int32)) (hb hby at_84) rfl rfl ?_
      refine g_lushr X0 hx (hb hby at_86) rfl rfl ?_
      refine g_l2i X0 hx (hb hby at_87) rfl rfl ?_
      obtain ⟨v88, hv88⟩ : ∃ r, ((((p4.toUInt64 >>> ((16 : Int32) &&& 0x3f).toInt64.toUInt64).toInt64).toInt32).toInt8.toInt32) = r := ⟨_, rfl⟩
      refine g_i2b X0 hx (hb hby at_88) rfl hv88 ?_
      refine g_istore X0 hx (Ls' := #[.val (.int p0), .val (.int p1), .val (.int p2), .val (.int p3), .val (.long p4), .second, .val (.int p5), .val (.int v4), .val (.int v14), .val (.int (0 : Int32)), .val (.int (0 : Int32)), .val (.int v70), .val (.int v79), .val (.int v88), .unset, .unset, .unset, .unset, .unset, .unset, .unset, .unset, .unset, .unset, .unset, .unset]) (hb hby at_89) rfl rfl ?_
      refine g_lload X0 hx (hb hby at_91) rfl rfl ?_
      refine g_bipush X0 hx (r := (24 : Int32)) (hb hby at_93) rfl rfl ?_
      refine g_lushr X0 hx (hb hby at_95) rfl rfl ?_
      refine g_l2i X0 hx (hb hby at_96) rfl rfl ?_
      obtain ⟨v97, hv97⟩ : ∃ r, ((((p4.toUInt64 >>> ((24 : Int32) &&& 0x3f).toInt64.toUInt64).toInt64).toInt32).toInt8.toInt32) = r := ⟨_, rfl⟩
      refine g_i2b X0 hx (hb hby at_97) rfl hv97 ?_
      refine g_istore X0 hx (Ls' := #[.val (.int p0), .val (.int p1), .val (.int p2), .val (.int p3), .val (.long p4), .second, .val (.int p5), .val (.int v4), .val (.int v14), .val (.int (0 : Int32)), .val (.int (0 : Int32)), .val (.int v70), .val (.int v79), .val (.int v88), .val (.int v97), .unset, .unset, .unset, .unset, .unset, .unset, .unset, .unset, .unset, .unset, .unset]) (hb hby at_98) rfl rfl ?_
      refine g_lload X0 hx (hb hby at_100) rfl rfl ?_
      refine g_bipush X0 hx (r := (32 : Int32)) (hb hby at_102) rfl rfl ?_
      refine g_lushr X0 hx (hb hby at_104) rfl rfl ?_
      refine g_l2i X0 hx (hb hby at_105) rfl rfl ?_
      obtain ⟨v106, hv106⟩ : ∃ r, ((((p4.toUInt64 >>> ((32 : Int32) &&& 0x3f).toInt64.toUInt64).toInt64).toInt32).toInt8.toInt32) = r := ⟨_, rfl⟩
      refine g_i2b X0 hx (hb hby at_106) rfl hv106 ?_
      refine g_istore X0 hx (Ls' := #[.val (.int p0), .val (.int p1), .val (.int p2), .val (.int p3), .val (.long p4), .second, .val (.int p5), .val (.int v4), .val (.int v14), .val (.int (0 : Int32)), .val (.int (0 : Int32)), .val (.int v70), .val (.int v79), .val (.int v88), .val (.int v97), .val (.int v106), .unset, .unset, .unset, .unset, .unset, .unset, .unset, .unset, .unset, .unset]) (hb hby at_107) rfl rfl ?_
      refine g_lload X0 hx (hb hby at_109) rfl rfl ?_
      refine g_bipush X0 hx (r := (40 : Int32)) (hb hby at_111) rfl rfl ?_
      refine g_lushr X0 hx (hb hby at_113) rfl rfl ?_
      refine g_l2i X0 hx (hb hby at_114) rfl rfl ?_
      obtain ⟨v115, hv115⟩ : ∃ r, ((((p4.toUInt64 >>> ((40 : Int32) &&& 0x3f).toInt64.toUInt64).toInt64).toInt32).toInt8.toInt32) = r := ⟨_, rfl⟩
      refine g_i2b X0 hx (hb hby at_115) rfl hv115 ?_
      refine g_istore X0 hx (Ls' := #[.val (.int p0), .val (.int p1), .val (.int p2), .val (.int p3), .val (.long p4), .second, .val (.int p5), .val (.int v4), .val (.int v14), .val (.int (0 : Int32)), .val (.int (0 : Int32)), .val (.int v70), .val (.int v79), .val (.int v88), .val (.int v97), .val (.int v106), .val (.int v115), .unset, .unset, .unset, .unset, .unset, .unset, .unset, .unset, .unset]) (hb hby at_116) rfl rfl ?_
      have hb70 : v70.toInt8.toInt32 = v70 := by rw [← hv70]; exact own_bb _
      have hb79 : v79.toInt8.toInt32 = v79 := by rw [← hv79]; exact own_bb _
      have hb88 : v88.toInt8.toInt32 = v88 := by rw [← hv88]; exact own_bb _
      have hb97 : v97.toInt8.toInt32 = v97 := by rw [← hv97]; exact own_bb _
      have hb106 : v106.toInt8.toInt32 = v106 := by rw [← hv106]; exact own_bb _
      have hb115 : v115.toInt8.toInt32 = v115 := by rw [← hv115]; exact own_bb _
      have hGb : ∀ j, ((own_G p0 p1 p2 p3 (fun j => own_abN j v4.toNatClampNeg (0 : Int32).toNatClampNeg v70 v79 v88) (fun j => own_abN j v14.toNatClampNeg (0 : Int32).toNatClampNeg v97 v106 v115) v4.toNatClampNeg) j).toInt8.toInt32 = (own_G p0 p1 p2 p3 (fun j => own_abN j v4.toNatClampNeg (0 : Int32).toNatClampNeg v70 v79 v88) (fun j => own_abN j v14.toNatClampNeg (0 : Int32).toNatClampNeg v97 v106 v115) v4.toNatClampNeg) j := own_Gb (own_abNb hb70 hb79 hb88) (own_abNb hb97 hb106 hb115)
      refine g_iload X0 hx (hb hby at_118) rfl rfl ?_
      refine g_newarray X0 hx hZ (aty := .byte) (hw _ (List.mem_of_getElem? (i := 1) rfl)) e0 n4.1 63 n4.2.1 (by decide) (by decide) (by decide) (ad := "[B") (by decide) (hb hby at_120) rfl fun T94 h94 b94 ka94 X94 e94 q94 E94 A94 V94 => ?_
      have g_b94 : n0 ≤ b94 := Nat.le_trans Z0 (Nat.le_of_eq q94.symm)
      have Z94 : n0 ≤ h94.size := Nat.le_trans Z0 E94.1
      have Vn94 : Arv Z h94 b94 ka94 .byte v4 (List.replicate 63 (.int (0 : Int32))) (.int (0 : Int32)) := V94
      refine g_astore X94 hx (Ls' := #[.val (.int p0), .val (.int p1), .val (.int p2), .val (.int p3), .val (.long p4), .second, .val (.int p5), .val (.int v4), .val (.int v14), .val (.int (0 : Int32)), .val (.int (0 : Int32)), .val (.int v70), .val (.int v79), .val (.int v88), .val (.int v97), .val (.int v106), .val (.int v115), .val (.ref b94), .unset, .unset, .unset, .unset, .unset, .unset, .unset, .unset]) (hb hby at_122) rfl rfl rfl ?_
      refine g_iload X94 hx (hb hby at_124) rfl rfl ?_
      refine g_newarray X94 hx hZ (aty := .byte) (hw _ (List.mem_of_getElem? (i := 1) rfl)) e94 n14.1 63 n14.2.1 (by decide) (by decide) (by decide) (ad := "[B") (by decide) (hb hby at_126) rfl fun T95 h95 b95 ka95 X95 e95 q95 E95 A95 V95 => ?_
      have ne_b94_b95 : b94 ≠ b95 := own_ne Vn94.lt q95
      have g_b95 : n0 ≤ b95 := Nat.le_trans Z94 (Nat.le_of_eq q95.symm)
      have Z95 : n0 ≤ h95.size := Nat.le_trans Z94 E95.1
      have Vn95 : Arv Z h95 b95 ka95 .byte v14 (List.replicate 63 (.int (0 : Int32))) (.int (0 : Int32)) := V95
      refine g_astore X95 hx (Ls' := #[.val (.int p0), .val (.int p1), .val (.int p2), .val (.int p3), .val (.long p4), .second, .val (.int p5), .val (.int v4), .val (.int v14), .val (.int (0 : Int32)), .val (.int (0 : Int32)), .val (.int v70), .val (.int v79), .val (.int v88), .val (.int v97), .val (.int v106), .val (.int v115), .val (.ref b94), .val (.ref b95), .unset, .unset, .unset, .unset, .unset, .unset, .unset]) (hb hby at_128) rfl rfl rfl ?_
      refine g_iload X95 hx (hb hby at_130) rfl rfl ?_
      have hc132 : ¬ (0 : Int32) < v4 := hc19
      refine g_ifY X95 hx (q := 157) (hb hby at_132) (XT.i0_le_t hc132) (by decide) (by decide) ?_
      refine g_iload X95 hx (hb hby at_157) rfl rfl ?_
      have hc159 : ¬ (0 : Int32) < v14 := hc44
      refine g_ifY X95 hx (q := 184) (hb hby at_159) (XT.i0_le_t hc159) (by decide) (by decide) ?_
      have f97 : Arv Z h95 b94 ka94 .byte v4 (List.replicate 63 (.int (0 : Int32))) (.int (0 : Int32)) := (Vn94.ext E95)
      refine g_new X95 hx hZ hown (hw _ (List.mem_of_getElem? (i := 2) rfl)) (hw _ (List.mem_of_getElem? (i := 3) rfl)) (hw _ (List.mem_of_getElem? (i := 4) rfl)) e95 (hb hby at_184) rfl (by decide) (by decide) fun T96 h96 b96 X96 e96 q96 E96 A96 D96 => ?_
      have ne_b94_b96 : b94 ≠ b96 := own_ne f97.lt q96
      have ne_b95_b96 : b95 ≠ b96 := own_ne Vn95.lt q96
      have g_b96 : n0 ≤ b96 := Nat.le_trans Z95 (Nat.le_of_eq q96.symm)
      have Z96 : n0 ≤ h96.size := Nat.le_trans Z95 E96.1
      have F96_bytes : Fld Z h96 b96 "com/example/glowworm/glowworm/NetlinkWriter" "bytes" "[B" .null := D96 (Or.inl (hw _ (List.mem_of_getElem? (i := 12) rfl))) (ty := (.array .byte)) (by decide)
      have F96_openNests : Fld Z h96 b96 "com/example/glowworm/glowworm/NetlinkWriter" "openNests" "Ljava/util/Deque;" .null := D96 (Or.inr (hw _ (List.mem_of_getElem? (i := 31) rfl))) (ty := (.object "java/util/Deque")) (by decide)
      have F96_length : Fld Z h96 b96 "com/example/glowworm/glowworm/NetlinkWriter" "length" "I" (.int (0 : Int32)) := D96 (Or.inl (hw _ (List.mem_of_getElem? (i := 45) rfl))) (ty := .int) (by decide)
      refine g_dup X96 hx (hb hby at_187) rfl rfl ?_
      refine g_iloadN X96 hx (hb hby at_188) rfl rfl ?_
      refine g_iloadN X96 hx (hb hby at_189) rfl rfl ?_
      refine g_iloadN X96 hx (hb hby at_190) rfl rfl ?_
      refine g_iloadN X96 hx (hb hby at_191) rfl rfl ?_
      refine g_special X96 hx hZ hown rfl (hw _ (List.mem_of_getElem? (i := 5) rfl)) (hw _ (List.mem_of_getElem? (i := 6) rfl)) (hw _ (List.mem_of_getElem? (i := 4) rfl)) (hw _ (List.mem_of_getElem? (i := 7) rfl)) (by decide) (a := b96) (rm_nini l Z a0 hw b96 p0 p1 p2 p3 h96 n0 Z96 F96_length F96_bytes F96_openNests A96 g_b96) (by rw [hml]; rfl) e96 [(.int p0), (.int p1), (.int p2), (.int p3)] rfl rfl (W := 1) (Nat.le_of_eq rfl) (by decide) (by decide) (by decide) (by decide) (lenOf pd_7 rfl) (hb hby at_192) rfl fun v98 T98 L98 X98 hQ98 => ?_
      obtain ⟨b_98, ka_98, dq_98, rfl, Nq98, kc98, p98_0, p98_1, p98_2, p98_3, p98_4, p98_5, p98_6, p98_7, p98_8, p98_9, p98_10, p98_11⟩ := hQ98
      have N98 := Fr.app N0 Nq98
      have f99 : Arv Z h96 b94 ka94 .byte v4 (List.replicate 63 (.int (0 : Int32))) (.int (0 : Int32)) := (f97.ext E96)
      have f100 : Arv Z h96 b95 ka95 .byte v14 (List.replicate 63 (.int (0 : Int32))) (.int (0 : Int32)) := (Vn95.ext E96)
      have ne_b94_b_98 : b94 ≠ b_98 := own_neK f99.lt p98_0
      have ne_b95_b_98 : b95 ≠ b_98 := own_neK f100.lt p98_0
      have ne_b96_b_98 : b96 ≠ b_98 := own_neK A96.lt p98_0
      have g_b_98 : n0 ≤ b_98 := Nat.le_trans Z96 p98_0
      have ne_b94_dq_98 : b94 ≠ dq_98 := own_neK f99.lt p98_1
      have ne_b95_dq_98 : b95 ≠ dq_98 := own_neK f100.lt p98_1
      have ne_b96_dq_98 : b96 ≠ dq_98 := own_neK A96.lt p98_1
      have g_dq_98 : n0 ≤ dq_98 := Nat.le_trans Z96 p98_1
      have Z98 : n0 ≤ T98.heap.size := Nat.le_trans Z96 kc98.1
      have pv98_10 : Arv Z T98.heap b_98 ka_98 .byte (64 : Int32) [(.int (0 : Int32)), (.int (0 : Int32)), (.int (0 : Int32)), (.int (0 : Int32)), (.int (p0.toInt8.toInt32)), (.int (((p0.toUInt32 >>> ((8 : Int32) &&& 31).toUInt32).toInt32).toInt8.toInt32)), (.int (p1.toInt8.toInt32)), (.int (((p1.toUInt32 >>> ((8 : Int32) &&& 31).toUInt32).toInt32).toInt8.toInt32)), (.int (p2.toInt8.toInt32)), (.int (((p2.toUInt32 >>> ((8 : Int32) &&& 31).toUInt32).toInt32).toInt8.toInt32)), (.int (((p2.toUInt32 >>> ((16 : Int32) &&& 31).toUInt32).toInt32).toInt8.toInt32)), (.int (((((p2.toUInt32 >>> ((16 : Int32) &&& 31).toUInt32).toInt32).toUInt32 >>> ((8 : Int32) &&& 31).toUInt32).toInt32).toInt8.toInt32)), (.int (p3.toInt8.toInt32)), (.int (((p3.toUInt32 >>> ((8 : Int32) &&& 31).toUInt32).toInt32).toInt8.toInt32)), (.int (((p3.toUInt32 >>> ((16 : Int32) &&& 31).toUInt32).toInt32).toInt8.toInt32)), (.int (((((p3.toUInt32 >>> ((16 : Int32) &&& 31).toUInt32).toInt32).toUInt32 >>> ((8 : Int32) &&& 31).toUInt32).toInt32).toInt8.toInt32)), (.int (0 : Int32)), (.int (0 : Int32)), (.int (0 : Int32)), (.int (0 : Int32)), (.int (0 : Int32)), (.int (0 : Int32)), (.int (0 : Int32)), (.int (0 : Int32)), (.int (0 : Int32)), (.int (0 : Int32)), (.int (0 : Int32)), (.int (0 : Int32)), (.int (0 : Int32)), (.int (0 : Int32)), (.int (0 : Int32)), (.int (0 : Int32)), (.int (0 : Int32)), (.int (0 : Int32)), (.int (0 : Int32)), (.int (0 : Int32)), (.int (0 : Int32)), (.int (0 : Int32)), (.int (0 : Int32)), (.int (0 : Int32)), (.int (0 : Int32)), (.int (0 : Int32)), (.int (0 : Int32)), (.int (0 : Int32)), (.int (0 : Int32)), (.int (0 : Int32)), (.int (0 : Int32)), (.int (0 : Int32)), (.int (0 : Int32)), (.int (0 : Int32)), (.int (0 : Int32)), (.int (0 : Int32)), (.int (0 : Int32)), (.int (0 : Int32)), (.int (0 : Int32)), (.int (0 : Int32)), (.int (0 : Int32)), (.int (0 : Int32)), (.int (0 : Int32)), (.int (0 : Int32)), (.int (0 : Int32)), (.int (0 : Int32)), (.int (0 : Int32)), (.int (0 : Int32))] (.int (0 : Int32)) := p98_10
      show Ga _ _ _ _ _ _ _ _ _ _ _ [(.ref b96)]
      refine g_astore X98 hx (Ls' := #[.val (.int p0), .val (.int p1), .val (.int p2), .val (.int p3), .val (.long p4), .second, .val (.int p5), .val (.int v4), .val (.int v14), .val (.int (0 : Int32)), .val (.int (0 : Int32)), .val (.int v70), .val (.int v79), .val (.int v88), .val (.int v97), .val (.int v106), .val (.int v115), .val (.ref b94), .val (.ref b95), .val (.ref b96), .unset, .unset, .unset, .unset, .unset, .unset]) (hb hby at_195) rfl rfl rfl ?_
      refine g_aload X98 hx (hb hby at_197) rfl rfl rfl ?_
      refine g_aload X98 hx (hb hby at_199) rfl rfl rfl ?_
      have hC16 : ∀ j, j < (16 : Int32).toNatClampNeg → ([(.int (0 : Int32)), (.int (0 : Int32)), (.int (0 : Int32)), (.int (0 : Int32)), (.int (p0.toInt8.toInt32)), (.int (((p0.toUInt32 >>> ((8 : Int32) &&& 31).toUInt32).toInt32).toInt8.toInt32)), (.int (p1.toInt8.toInt32)), (.int (((p1.toUInt32 >>> ((8 : Int32) &&& 31).toUInt32).toInt32).toInt8.toInt32)), (.int (p2.toInt8.toInt32)), (.int (((p2.toUInt32 >>> ((8 : Int32) &&& 31).toUInt32).toInt32).toInt8.toInt32)), (.int (((p2.toUInt32 >>> ((16 : Int32) &&& 31).toUInt32).toInt32).toInt8.toInt32)), (.int (((((p2.toUInt32 >>> ((16 : Int32) &&& 31).toUInt32).toInt32).toUInt32 >>> ((8 : Int32) &&& 31).toUInt32).toInt32).toInt8.toInt32)), (.int (p3.toInt8.toInt32)), (.int (((p3.toUInt32 >>> ((8 : Int32) &&& 31).toUInt32).toInt32).toInt8.toInt32)), (.int (((p3.toUInt32 >>> ((16 : Int32) &&& 31).toUInt32).toInt32).toInt8.toInt32)), (.int (((((p3.toUInt32 >>> ((16 : Int32) &&& 31).toUInt32).toInt32).toUInt32 >>> ((8 : Int32) &&& 31).toUInt32).toInt32).toInt8.toInt32)), (.int (0 : Int32)), (.int (0 : Int32)), (.int (0 : Int32)), (.int (0 : Int32)), (.int (0 : Int32)), (.int (0 : Int32)), (.int (0 : Int32)), (.int (0 : Int32)), (.int (0 : Int32)), (.int (0 : Int32)), (.int (0 : Int32)), (.int (0 : Int32)), (.int (0 : Int32)), (.int (0 : Int32)), (.int (0 : Int32)), (.int (0 : Int32)), (.int (0 : Int32)), (.int (0 : Int32)), (.int (0 : Int32)), (.int (0 : Int32)), (.int (0 : Int32)), (.int (0 : Int32)), (.int (0 : Int32)), (.int (0 : Int32)), (.int (0 : Int32)), (.int (0 : Int32)), (.int (0 : Int32)), (.int (0 : Int32)), (.int (0 : Int32)), (.int (0 : Int32)), (.int (0 : Int32)), (.int (0 : Int32)), (.int (0 : Int32)), (.int (0 : Int32)), (.int (0 : Int32)), (.int (0 : Int32)), (.int (0 : Int32)), (.int (0 : Int32)), (.int (0 : Int32)), (.int (0 : Int32)), (.int (0 : Int32)), (.int (0 : Int32)), (.int (0 : Int32)), (.int (0 : Int32)), (.int (0 : Int32)), (.int (0 : Int32)), (.int (0 : Int32)), (.int (0 : Int32))] : List Value).getD j (.int (0 : Int32)) = .int ((own_G p0 p1 p2 p3 (fun j => own_abN j v4.toNatClampNeg (0 : Int32).toNatClampNeg v70 v79 v88) (fun j => own_abN j v14.toNatClampNeg (0 : Int32).toNatClampNeg v97 v106 v115) v4.toNatClampNeg) j) := fun j hj => match j, hj with | 0, _ => rfl | 1, _ => rfl | 2, _ => rfl | 3, _ => rfl | 4, _ => rfl | 5, _ => rfl | 6, _ => rfl | 7, _ => rfl | 8, _ => rfl | 9, _ => rfl | 10, _ => rfl | 11, _ => rfl | 12, _ => rfl | 13, _ => rfl | 14, _ => rfl | 15, _ => rfl | j + 16, hj => absurd hj (by simp [show (16 : Int32).toNatClampNeg = 16 from rfl])
      have f102 : Arv Z T98.heap b94 ka94 .byte v4 (List.replicate 63 (.int (0 : Int32))) (.int (0 : Int32)) := (f99.keep kc98 (ninS ne_b94_b96 nin0))
      refine g_virtual X98 hx hZ hown (hw _ (List.mem_of_getElem? (i := 46) rfl)) (hw _ (List.mem_of_getElem? (i := 47) rfl)) (notFace_of_selects (args := #[]) (mvT hZ (hw _ (List.mem_of_getElem? (i := 49) rfl)))) (hw _ (List.mem_of_getElem? (i := 49) rfl)) (hw _ (List.mem_of_getElem? (i := 48) rfl)) (hw _ (List.mem_of_getElem? (i := 4) rfl)) (hw _ (List.mem_of_getElem? (i := 50) rfl)) (by decide) (a := b96) p98_3 (rm_raw l Z a0 hw b96 b94 ka94 (List.replicate 63 (.int (0 : Int32))) v4 b_98 ka_98 dq_98 (64 : Int32) (16 : Int32) [(.int (0 : Int32)), (.int (0 : Int32)), (.int (0 : Int32)), (.int (0 : Int32)), (.int (p0.toInt8.toInt32)), (.int (((p0.toUInt32 >>> ((8 : Int32) &&& 31).toUInt32).toInt32).toInt8.toInt32)), (.int (p1.toInt8.toInt32)), (.int (((p1.toUInt32 >>> ((8 : Int32) &&& 31).toUInt32).toInt32).toInt8.toInt32)), (.int (p2.toInt8.toInt32)), (.int (((p2.toUInt32 >>> ((8 : Int32) &&& 31).toUInt32).toInt32).toInt8.toInt32)), (.int (((p2.toUInt32 >>> ((16 : Int32) &&& 31).toUInt32).toInt32).toInt8.toInt32)), (.int (((((p2.toUInt32 >>> ((16 : Int32) &&& 31).toUInt32).toInt32).toUInt32 >>> ((8 : Int32) &&& 31).toUInt32).toInt32).toInt8.toInt32)), (.int (p3.toInt8.toInt32)), (.int (((p3.toUInt32 >>> ((8 : Int32) &&& 31).toUInt32).toInt32).toInt8.toInt32)), (.int (((p3.toUInt32 >>> ((16 : Int32) &&& 31).toUInt32).toInt32).toInt8.toInt32)), (.int (((((p3.toUInt32 >>> ((16 : Int32) &&& 31).toUInt32).toInt32).toUInt32 >>> ((8 : Int32) &&& 31).toUInt32).toInt32).toInt8.toInt32)), (.int (0 : Int32)), (.int (0 : Int32)), (.int (0 : Int32)), (.int (0 : Int32)), (.int (0 : Int32)), (.int (0 : Int32)), (.int (0 : Int32)), (.int (0 : Int32)), (.int (0 : Int32)), (.int (0 : Int32)), (.int (0 : Int32)), (.int (0 : Int32)), (.int (0 : Int32)), (.int (0 : Int32)), (.int (0 : Int32)), (.int (0 : Int32)), (.int (0 : Int32)), (.int (0 : Int32)), (.int (0 : Int32)), (.int (0 : Int32)), (.int (0 : Int32)), (.int (0 : Int32)), (.int (0 : Int32)), (.int (0 : Int32)), (.int (0 : Int32)), (.int (0 : Int32)), (.int (0 : Int32)), (.int (0 : Int32)), (.int (0 : Int32)), (.int (0 : Int32)), (.int (0 : Int32)), (.int (0 : Int32)), (.int (0 : Int32)), (.int (0 : Int32)), (.int (0 : Int32)), (.int (0 : Int32)), (.int (0 : Int32)), (.int (0 : Int32)), (.int (0 : Int32)), (.int (0 : Int32)), (.int (0 : Int32)), (.int (0 : Int32)), (.int (0 : Int32)), (.int (0 : Int32)), (.int (0 : Int32)), (.int (0 : Int32)), (.int (0 : Int32)), (.int (0 : Int32))] (own_G p0 p1 p2 p3 (fun j => own_abN j v4.toNatClampNeg (0 : Int32).toNatClampNeg v70 v79 v88) (fun j => own_abN j v14.toNatClampNeg (0 : Int32).toNatClampNeg v97 v106 v115) v4.toNatClampNeg) T98.heap n0 Z98 p98_7 p98_8 p98_9 pv98_10 f102 p98_3 p98_11 g_b96 g_b_98 ne_b96_b_98 ne_b94_b96 ne_b94_b_98 hGb (by decide) n4.1 (by have q := n4.2.2.1; have e : (16 : Int32).toInt = 16 := rfl; omega) (⟨rfl, by decide, by decide, Or.inl ⟨rfl, rfl, rfl⟩⟩) hC16 (own_P1 (own_non n4.2.2.2.1 hc19))) (by rw [hml]; rfl) rfl [(.ref b94)] rfl rfl (W := 0) (Nat.le_of_eq rfl) (by decide) (by decide) (by decide) (by decide) (lenOf pd_8 rfl) (hb hby at_201) rfl fun v101 T101 L101 X101 hQ101 => ?_
      obtain ⟨b2_101, k2_101, z2_101, v2_101, rfl, Nq101, kc101, p101_0, p101_1, p101_2, p101_3, p101_4, p101_5, p101_6, p101_7, p101_8, p101_9⟩ := hQ101
      have N101 := Fr.app N98 Nq101
      have f103 : Arv Z T98.heap b95 ka95 .byte v14 (List.replicate 63 (.int (0 : Int32))) (.int (0 : Int32)) := (f100.keep kc98 (ninS ne_b95_b96 nin0))
      have ne_b94_b2_101 : b94 ≠ b2_101 := own_nb p101_0 f102.lt ne_b94_b_98
      have ne_b95_b2_101 : b95 ≠ b2_101 := own_nb p101_0 f103.lt ne_b95_b_98
      have ne_b96_b2_101 : b96 ≠ b2_101 := own_nb p101_0 p98_3.lt ne_b96_b_98
      have ne_dq_98_b2_101 : dq_98 ≠ b2_101 := own_nb p101_0 p98_4.lt (Ne.symm p98_2)
      have g_b2_101 : n0 ≤ b2_101 := own_ng p101_0 g_b_98 Z98
      have Z101 : n0 ≤ T101.heap.size := Nat.le_trans Z98 kc101.1
      have hrm2_101 := p101_8
      have hC2_101 := p101_9
      show Ga _ _ _ _ _ _ _ _ _ _ _ [(.ref b96)]
      refine g_astore X101 hx (Ls' := #[.val (.int p0), .val (.int p1), .val (.int p2), .val (.int p3), .val (.long p4), .second, .val (.int p5), .val (.int v4), .val (.int v14), .val (.int (0 : Int32)), .val (.int (0 : Int32)), .val (.int v70), .val (.int v79), .val (.int v88), .val (.int v97), .val (.int v106), .val (.int v115), .val (.ref b94), .val (.ref b95), .val (.ref b96), .val (.ref b96), .unset, .unset, .unset, .unset, .unset]) (hb hby at_204) rfl rfl rfl ?_
      refine g_aload X101 hx (hb hby at_206) rfl rfl rfl ?_
      refine g_aload X101 hx (hb hby at_208) rfl rfl rfl ?_
      have f105 : Arv Z T101.heap b95 ka95 .byte v14 (List.replicate 63 (.int (0 : Int32))) (.int (0 : Int32)) := (f103.keep kc101 (ninS ne_b95_b96 (ninS ne_b95_b_98 nin0)))
      refine g_virtual X101 hx hZ hown (hw _ (List.mem_of_getElem? (i := 46) rfl)) (hw _ (List.mem_of_getElem? (i := 47) rfl)) (notFace_of_selects (args := #[]) (mvT hZ (hw _ (List.mem_of_getElem? (i := 49) rfl)))) (hw _ (List.mem_of_getElem? (i := 49) rfl)) (hw _ (List.mem_of_getElem? (i := 48) rfl)) (hw _ (List.mem_of_getElem? (i := 4) rfl)) (hw _ (List.mem_of_getElem? (i := 50) rfl)) (by decide) (a := b96) p101_1 (rm_raw l Z a0 hw b96 b95 ka95 (List.replicate 63 (.int (0 : Int32))) v14 b2_101 k2_101 dq_98 z2_101 ((16 : Int32) + v4) v2_101 (own_G p0 p1 p2 p3 (fun j => own_abN j v4.toNatClampNeg (0 : Int32).toNatClampNeg v70 v79 v88) (fun j => own_abN j v14.toNatClampNeg (0 : Int32).toNatClampNeg v97 v106 v115) v4.toNatClampNeg) T101.heap n0 Z101 p101_3 p101_4 p101_5 p101_6 f105 p101_1 p101_2 g_b96 g_b2_101 p101_7 ne_b95_b96 ne_b95_b2_101 hGb ((own_1617 n4.2.2.2.1 n4.2.2.1).2.1) n14.1 (by rw [(own_1617 n4.2.2.2.1 n4.2.2.1).1]; have q := n14.2.2.1; have r := n4.2.2.1; omega) (own_RM0 hrm2_101) hC2_101 (own_P2 n4.2.2.2.1 n4.2.2.1 (own_non n14.2.2.2.1 hc44))) (by rw [hml]; rfl) rfl [(.ref b95)] rfl rfl (W := 0) (Nat.le_of_eq rfl) (by decide) (by decide) (by decide) (by decide) (lenOf pd_8 rfl) (hb hby at_210) rfl fun v104 T104 L104 X104 hQ104 => ?_
      obtain ⟨b2_104, k2_104, z2_104, v2_104, rfl, Nq104, kc104, p104_0, p104_1, p104_2, p104_3, p104_4, p104_5, p104_6, p104_7, p104_8, p104_9⟩ := hQ104
      have N104 := Fr.app N101 Nq104
      have f106 : Arv Z T101.heap b94 ka94 .byte v4 (List.replicate 63 (.int (0 : Int32))) (.int (0 : Int32)) := (f102.keep kc101 (ninS ne_b94_b96 (ninS ne_b94_b_98 nin0)))
      have f107 : Exa Z T101.heap b_98 "[B" := (p98_11.keep kc101)
      have f108 : Exa Z T101.heap dq_98 "java/util/ArrayDeque" := (p98_4.keep kc101)
      have ne_b94_b2_104 : b94 ≠ b2_104 := own_nb p104_0 f106.lt ne_b94_b2_101
      have ne_b95_b2_104 : b95 ≠ b2_104 := own_nb p104_0 f105.lt ne_b95_b2_101
      have ne_b96_b2_104 : b96 ≠ b2_104 := own_nb p104_0 p101_1.lt p101_7
      have ne_dq_98_b2_104 : dq_98 ≠ b2_104 := own_nb p104_0 f108.lt ne_dq_98_b2_101
      have g_b2_104 : n0 ≤ b2_104 := own_ng p104_0 g_b2_101 Z101
      have Z104 : n0 ≤ T104.heap.size := Nat.le_trans Z101 kc104.1
      have hrm2_104 := p104_8
      have hC2_104 := p104_9
      show Ga _ _ _ _ _ _ _ _ _ _ _ [(.ref b96)]
      refine g_astore X104 hx (Ls' := #[.val (.int p0), .val (.int p1), .val (.int p2), .val (.int p3), .val (.long p4), .second, .val (.int p5), .val (.int v4), .val (.int v14), .val (.int (0 : Int32)), .val (.int (0 : Int32)), .val (.int v70), .val (.int v79), .val (.int v88), .val (.int v97), .val (.int v106), .val (.int v115), .val (.ref b94), .val (.ref b95), .val (.ref b96), .val (.ref b96), .val (.ref b96), .unset, .unset, .unset, .unset]) (hb hby at_213) rfl rfl rfl ?_
      refine g_aload X104 hx (hb hby at_215) rfl rfl rfl ?_
      have f110 : Exa Z T104.heap dq_98 "java/util/ArrayDeque" := (f108.keep kc104)
      have f111 : Fld Z T104.heap dq_98 "java/util/ArrayDeque" "head" "I" (.int (0 : Int32)) := ((p98_5.keep kc101 (ninS (Ne.symm ne_b96_dq_98) (ninS (Ne.symm p98_2) nin0))).keep kc104 (ninS (Ne.symm ne_b96_dq_98) (ninS ne_dq_98_b2_101 nin0)))
      have f112 : Fld Z T104.heap dq_98 "java/util/ArrayDeque" "tail" "I" (.int (0 : Int32)) := ((p98_6.keep kc101 (ninS (Ne.symm ne_b96_dq_98) (ninS (Ne.symm p98_2) nin0))).keep kc104 (ninS (Ne.symm ne_b96_dq_98) (ninS ne_dq_98_b2_101 nin0)))
      refine g_virtual X104 hx hZ hown (hw _ (List.mem_of_getElem? (i := 51) rfl)) (hw _ (List.mem_of_getElem? (i := 52) rfl)) (notFace_of_selects (args := #[]) (mvT hZ (hw _ (List.mem_of_getElem? (i := 54) rfl)))) (hw _ (List.mem_of_getElem? (i := 54) rfl)) (hw _ (List.mem_of_getElem? (i := 53) rfl)) (hw _ (List.mem_of_getElem? (i := 4) rfl)) (hw _ (List.mem_of_getElem? (i := 55) rfl)) (by decide) (a := b96) p104_1 (rm_tobytes l Z a0 hw b96 b2_104 dq_98 k2_104 v2_104 z2_104 (((16 : Int32) + v4) + v14) (own_G p0 p1 p2 p3 (fun j => own_abN j v4.toNatClampNeg (0 : Int32).toNatClampNeg v70 v79 v88) (fun j => own_abN j v14.toNatClampNeg (0 : Int32).toNatClampNeg v97 v106 v115) v4.toNatClampNeg) T104.heap n0 Z104 p104_3 p104_4 p104_5 p104_6 p104_1 p104_2 g_b2_104 p104_7 f110 f111 f112 htt.2 hrm2_104 hC2_104) (by rw [hml]; rfl) rfl [] rfl rfl (W := 0) (Nat.le_of_eq rfl) (by decide) (by decide) (by decide) (by decide) (lenOf pd_9 rfl) (hb hby at_217) rfl fun v109 T109 L109 X109 hQ109 => ?_
      obtain ⟨d_109, kd_109, ds_109, rfl, Nq109, kc109, p109_0, p109_1, p109_2⟩ := hQ109
      have N109 := Fr.app N104 Nq109
      have f113 : Exa Z T104.heap b2_101 "[B" := (p101_2.keep kc104)
      have f114 : Arv Z T104.heap b94 ka94 .byte v4 (List.replicate 63 (.int (0 : Int32))) (.int (0 : Int32)) := (f106.keep kc104 (ninS ne_b94_b96 (ninS ne_b94_b2_101 nin0)))
      have f115 : Arv Z T104.heap b95 ka95 .byte v14 (List.replicate 63 (.int (0 : Int32))) (.int (0 : Int32)) := (f105.keep kc104 (ninS ne_b95_b96 (ninS ne_b95_b2_101 nin0)))
      have f116 : Exa Z T104.heap b_98 "[B" := (f107.keep kc104)
      have ne_b2_101_d_109 : b2_101 ≠ d_109 := own_neK f113.lt p109_0
      have ne_b2_104_d_109 : b2_104 ≠ d_109 := own_neK p104_2.lt p109_0
      have ne_b94_d_109 : b94 ≠ d_109 := own_neK f114.lt p109_0
      have ne_b95_d_109 : b95 ≠ d_109 := own_neK f115.lt p109_0
      have ne_b96_d_109 : b96 ≠ d_109 := own_neK p104_1.lt p109_0
      have ne_b_98_d_109 : b_98 ≠ d_109 := own_neK f116.lt p109_0
      have ne_dq_98_d_109 : dq_98 ≠ d_109 := own_neK f110.lt p109_0
      have g_d_109 : n0 ≤ d_109 := Nat.le_trans Z104 p109_0
      have Z109 : n0 ≤ T109.heap.size := Nat.le_trans Z104 kc109.1
      have hdg_109 := p109_2
      show Ga _ _ _ _ _ _ _ _ _ _ _ [(.ref d_109)]
      refine g_astore X109 hx (Ls' := #[.val (.int p0), .val (.int p1), .val (.int p2), .val (.int p3), .val (.long p4), .second, .val (.int p5), .val (.int v4), .val (.int v14), .val (.int (0 : Int32)), .val (.int (0 : Int32)), .val (.int v70), .val (.int v79), .val (.int v88), .val (.int v97), .val (.int v106), .val (.int v115), .val (.ref b94), .val (.ref b95), .val (.ref b96), .val (.ref b96), .val (.ref b96), .val (.ref d_109), .unset, .unset, .unset]) (hb hby at_220) rfl rfl rfl ?_
      refine g_bipush X109 hx (r := (16 : Int32)) (hb hby at_222) rfl rfl ?_
      refine g_iload X109 hx (hb hby at_224) rfl rfl ?_
      refine g_iadd X109 hx (hb hby at_226) rfl rfl ?_
      refine g_iload X109 hx (hb hby at_227) rfl rfl ?_
      refine g_iadd X109 hx (hb hby at_229) rfl rfl ?_
      refine g_istore X109 hx (Ls' := #[.val (.int p0), .val (.int p1), .val (.int p2), .val (.int p3), .val (.long p4), .second, .val (.int p5), .val (.int v4), .val (.int v14), .val (.int (0 : Int32)), .val (.int (0 : Int32)), .val (.int v70), .val (.int v79), .val (.int v88), .val (.int v97), .val (.int v106), .val (.int v115), .val (.ref b94), .val (.ref b95), .val (.ref b96), .val (.ref b96), .val (.ref b96), .val (.ref d_109), .val (.int (((16 : Int32) + v4) + v14)), .unset, .unset]) (hb hby at_230) rfl rfl ?_
      refine g_aload X109 hx (hb hby at_232) rfl rfl rfl ?_
      refine g_aload X109 hx (hb hby at_234) rfl rfl rfl ?_
      refine g_acmp X109 hx (q := 239) (same := true) (hb hby at_236) rfl rfl (decide_eq_true rfl) (by decide) (by decide) ?_
      refine g_aload X109 hx (hb hby at_239) rfl rfl rfl ?_
      refine g_aload X109 hx (hb hby at_241) rfl rfl rfl ?_
      refine g_acmp X109 hx (q := 248) (same := true) (hb hby at_243) rfl rfl (decide_eq_true rfl) (by decide) (by decide) ?_
      refine g_aload X109 hx (hb hby at_248) rfl rfl rfl ?_
      refine g_len X109 hx hZ rfl p109_1 (hb hby at_250) rfl ?_
      refine g_iload X109 hx (hb hby at_251) rfl rfl ?_
      refine g_icmpY X109 hx (q := 258) (hb hby at_253) (XT.ii_eq_t rfl) (by decide) (by decide) ?_
      refine g_iload X109 hx (hb hby at_258) rfl rfl ?_
      refine g_bipush X109 hx (r := (12 : Int32)) (hb hby at_260) rfl rfl ?_
      refine g_iushr X109 hx (hb hby at_262) rfl rfl ?_
      refine g_iload X109 hx (hb hby at_263) rfl rfl ?_
      obtain ⟨v265, hv265⟩ : ∃ r, (((p5.toUInt32 >>> ((12 : Int32) &&& 31).toUInt32).toInt32) % (((16 : Int32) + v4) + v14)) = r := ⟨_, rfl⟩
      refine g_irem X109 hx (hb hby at_265) rfl (own_nzt htot) hv265 ?_
      refine g_istore X109 hx (Ls' := #[.val (.int p0), .val (.int p1), .val (.int p2), .val (.int p3), .val (.long p4), .second, .val (.int p5), .val (.int v4), .val (.int v14), .val (.int (0 : Int32)), .val (.int (0 : Int32)), .val (.int v70), .val (.int v79), .val (.int v88), .val (.int v97), .val (.int v106), .val (.int v115), .val (.ref b94), .val (.ref b95), .val (.ref b96), .val (.ref b96), .val (.ref b96), .val (.ref d_109), .val (.int (((16 : Int32) + v4) + v14)), .val (.int v265), .unset]) (hb hby at_266) rfl rfl ?_
      refine g_iload X109 hx (hb hby at_268) rfl rfl ?_
      refine g_bipush X109 hx (r := (16 : Int32)) (hb hby at_270) rfl rfl ?_
      by_cases hc272 : v265 < (16 : Int32)
      · skip
        refine g_icmpN X109 hx (hb hby at_272) rfl (XT.ii_ge_f hc272) ?_
        refine g_iload X109 hx (hb hby at_275) rfl rfl ?_
        refine g_iload X109 hx (hb hby at_277) rfl rfl ?_
        refine g_iloadN X109 hx (hb hby at_279) rfl rfl ?_
        refine g_iloadN X109 hx (hb hby at_280) rfl rfl ?_
        refine g_iloadN X109 hx (hb hby at_281) rfl rfl ?_
        refine g_iloadN X109 hx (hb hby at_282) rfl rfl ?_
        refine g_static X109 hx hZ hown (hw _ (List.mem_of_getElem? (i := 85) rfl)) (hw _ (List.mem_of_getElem? (i := 86) rfl)) (hw _ (List.mem_of_getElem? (i := 87) rfl)) (hw _ (List.mem_of_getElem? (i := 88) rfl)) (by decide) (rm_hdb l Z a0 hw v265 (((16 : Int32) + v4) + v14) p0 p1 p2 p3 T109.heap n0 Z109) (by rw [hml]; rfl) rfl [(.int v265), (.int (((16 : Int32) + v4) + v14)), (.int p0), (.int p1), (.int p2), (.int p3)] rfl rfl (W := 0) (Nat.le_of_eq rfl) (by decide) (by decide) (by decide) (by decide) (lenOf pd_10 rfl) (hb hby at_283) rfl fun v117 T117 L117 X117 hQ117 => ?_
        obtain ⟨rfl, Nq117, eh117⟩ := hQ117
        have N117 := Fr.app N109 Nq117
        show Ga _ _ _ _ _ _ _ _ _ _ _ [(.int (own_hb v265 (((16 : Int32) + v4) + v14) p0 p1 p2 p3))]
        refine g_istore X117 hx (Ls' := #[.val (.int p0), .val (.int p1), .val (.int p2), .val (.int p3), .val (.long p4), .second, .val (.int p5), .val (.int v4), .val (.int v14), .val (.int (0 : Int32)), .val (.int (0 : Int32)), .val (.int v70), .val (.int v79), .val (.int v88), .val (.int v97), .val (.int v106), .val (.int v115), .val (.ref b94), .val (.ref b95), .val (.ref b96), .val (.ref b96), .val (.ref b96), .val (.ref d_109), .val (.int (((16 : Int32) + v4) + v14)), .val (.int v265), .val (.int (own_hb v265 (((16 : Int32) + v4) + v14) p0 p1 p2 p3))]) (hb hby at_286) rfl rfl ?_
        refine g_goto X117 hx (q := 347) (hb hby at_288) (by decide) (by decide) ?_
        refine g_aload X117 hx (hb hby at_347) rfl rfl rfl ?_
        refine g_iload X117 hx (hb hby at_349) rfl rfl ?_
        refine g_baload X117 hx hZ eh117 p109_1 (v := (.int (own_T (((16 : Int32) + v4) + v14) (own_G p0 p1 p2 p3 (fun j => own_abN j v4.toNatClampNeg (0 : Int32).toNatClampNeg v70 v79 v88) (fun j => own_abN j v14.toNatClampNeg (0 : Int32).toNatClampNeg v97 v106 v115) v4.toNatClampNeg) v265.toNatClampNeg))) (own_kr hv265 htot) (hdg_109 _ (own_nat (own_kr hv265 htot).1 (own_kr hv265 htot).2)) (hb hby at_351) rfl ?_
        refine g_iload X117 hx (hb hby at_352) rfl rfl ?_
        have hc354 : (own_T (((16 : Int32) + v4) + v14) (own_G p0 p1 p2 p3 (fun j => own_abN j v4.toNatClampNeg (0 : Int32).toNatClampNeg v70 v79 v88) (fun j => own_abN j v14.toNatClampNeg (0 : Int32).toNatClampNeg v97 v106 v115) v4.toNatClampNeg) v265.toNatClampNeg) = (own_hb v265 (((16 : Int32) + v4) + v14) p0 p1 p2 p3) := own_fin1 (own_kr hv265 htot).1 hc272
        refine g_icmpN X117 hx (hb hby at_354) rfl (XT.ii_ne_f hc354) ?_
        refine g_iconst X117 hx (r := (1 : Int32)) (hb hby at_357) rfl rfl ?_
        refine g_goto X117 hx (q := 362) (hb hby at_358) (by decide) (by decide) ?_
        exact g_retN X117 hx (t := .boolean) (r := (1 : Int32)) hret (by simp) hlk (hb hby at_362) rfl (by decide) (by decide) (by rw [eh117]; exact ⟨rfl, N117⟩)
      · skip
        refine g_icmpY X109 hx (q := 291) (hb hby at_272) (XT.ii_ge_t hc272) (by decide) (by decide) ?_
        refine g_iload X109 hx (hb hby at_291) rfl rfl ?_
        refine g_bipush X109 hx (r := (16 : Int32)) (hb hby at_293) rfl rfl ?_
        refine g_iload X109 hx (hb hby at_295) rfl rfl ?_
        refine g_iadd X109 hx (hb hby at_297) rfl rfl ?_
        by_cases hc298 : v265 < ((16 : Int32) + v4)
        · skip
          refine g_icmpN X109 hx (hb hby at_298) rfl (XT.ii_ge_f hc298) ?_
          refine g_iload X109 hx (hb hby at_301) rfl rfl ?_
          refine g_bipush X109 hx (r := (16 : Int32)) (hb hby at_303) rfl rfl ?_
          refine g_isub X109 hx (hb hby at_305) rfl rfl ?_
          refine g_iload X109 hx (hb hby at_306) rfl rfl ?_
          refine g_iload X109 hx (hb hby at_308) rfl rfl ?_
          refine g_iload X109 hx (hb hby at_310) rfl rfl ?_
          refine g_iload X109 hx (hb hby at_312) rfl rfl ?_
          refine g_iload X109 hx (hb hby at_314) rfl rfl ?_
          refine g_static X109 hx hZ hown (hw _ (List.mem_of_getElem? (i := 89) rfl)) (hw _ (List.mem_of_getElem? (i := 90) rfl)) (hw _ (List.mem_of_getElem? (i := 87) rfl)) (hw _ (List.mem_of_getElem? (i := 91) rfl)) (by decide) (rm_arb l Z a0 hw (v265 - (16 : Int32)) v4 (0 : Int32) v70 v79 v88 T109.heap n0 Z109 hb70 hb79 hb88) (by rw [hml]; rfl) rfl [(.int (v265 - (16 : Int32))), (.int v4), (.int (0 : Int32)), (.int v70), (.int v79), (.int v88)] rfl rfl (W := 0) (Nat.le_of_eq rfl) (by decide) (by decide) (by decide) (by decide) (lenOf pd_11 rfl) (hb hby at_316) rfl fun v118 T118 L118 X118 hQ118 => ?_
          obtain ⟨rfl, Nq118, eh118⟩ := hQ118
          have N118 := Fr.app N109 Nq118
          show Ga _ _ _ _ _ _ _ _ _ _ _ [(.int (own_ab (v265 - (16 : Int32)) v4 (0 : Int32) v70 v79 v88))]
          refine g_istore X118 hx (Ls' := #[.val (.int p0), .val (.int p1), .val (.int p2), .val (.int p3), .val (.long p4), .second, .val (.int p5), .val (.int v4), .val (.int v14), .val (.int (0 : Int32)), .val (.int (0 : Int32)), .val (.int v70), .val (.int v79), .val (.int v88), .val (.int v97), .val (.int v106), .val (.int v115), .val (.ref b94), .val (.ref b95), .val (.ref b96), .val (.ref b96), .val (.ref b96), .val (.ref d_109), .val (.int (((16 : Int32) + v4) + v14)), .val (.int v265), .val (.int (own_ab (v265 - (16 : Int32)) v4 (0 : Int32) v70 v79 v88))]) (hb hby at_319) rfl rfl ?_
          refine g_goto X118 hx (q := 347) (hb hby at_321) (by decide) (by decide) ?_
          refine g_aload X118 hx (hb hby at_347) rfl rfl rfl ?_
          refine g_iload X118 hx (hb hby at_349) rfl rfl ?_
          refine g_baload X118 hx hZ eh118 p109_1 (v := (.int (own_T (((16 : Int32) + v4) + v14) (own_G p0 p1 p2 p3 (fun j => own_abN j v4.toNatClampNeg (0 : Int32).toNatClampNeg v70 v79 v88) (fun j => own_abN j v14.toNatClampNeg (0 : Int32).toNatClampNeg v97 v106 v115) v4.toNatClampNeg) v265.toNatClampNeg))) (own_kr hv265 htot) (hdg_109 _ (own_nat (own_kr hv265 htot).1 (own_kr hv265 htot).2)) (hb hby at_351) rfl ?_
          refine g_iload X118 hx (hb hby at_352) rfl rfl ?_
          have hc354 : (own_T (((16 : Int32) + v4) + v14) (own_G p0 p1 p2 p3 (fun j => own_abN j v4.toNatClampNeg (0 : Int32).toNatClampNeg v70 v79 v88) (fun j => own_abN j v14.toNatClampNeg (0 : Int32).toNatClampNeg v97 v106 v115) v4.toNatClampNeg) v265.toNatClampNeg) = (own_ab (v265 - (16 : Int32)) v4 (0 : Int32) v70 v79 v88) := own_fin2 hc272 hc298 n4.2.2.2.1 n4.2.2.1 (by decide)
          refine g_icmpN X118 hx (hb hby at_354) rfl (XT.ii_ne_f hc354) ?_
          refine g_iconst X118 hx (r := (1 : Int32)) (hb hby at_357) rfl rfl ?_
          refine g_goto X118 hx (q := 362) (hb hby at_358) (by decide) (by decide) ?_
          exact g_retN X118 hx (t := .boolean) (r := (1 : Int32)) hret (by simp) hlk (hb hby at_362) rfl (by decide) (by decide) (by rw [eh118]; exact ⟨rfl, N118⟩)
        · skip
          refine g_icmpY X109 hx (q := 324) (hb hby at_298) (XT.ii_ge_t hc298) (by decide) (by decide) ?_
          refine g_iload X109 hx (hb hby at_324) rfl rfl ?_
          refine g_bipush X109 hx (r := (16 : Int32)) (hb hby at_326) rfl rfl ?_
          refine g_isub X109 hx (hb hby at_328) rfl rfl ?_
          refine g_iload X109 hx (hb hby at_329) rfl rfl ?_
          refine g_isub X109 hx (hb hby at_331) rfl rfl ?_
          refine g_iload X109 hx (hb hby at_332) rfl rfl ?_
          refine g_iload X109 hx (hb hby at_334) rfl rfl ?_
          refine g_iload X109 hx (hb hby at_336) rfl rfl ?_
          refine g_iload X109 hx (hb hby at_338) rfl rfl ?_
          refine g_iload X109 hx (hb hby at_340) rfl rfl ?_
          refine g_static X109 hx hZ hown (hw _ (List.mem_of_getElem? (i := 89) rfl)) (hw _ (List.mem_of_getElem? (i := 90) rfl)) (hw _ (List.mem_of_getElem? (i := 87) rfl)) (hw _ (List.mem_of_getElem? (i := 91) rfl)) (by decide) (rm_arb l Z a0 hw ((v265 - (16 : Int32)) - v4) v14 (0 : Int32) v97 v106 v115 T109.heap n0 Z109 hb97 hb106 hb115) (by rw [hml]; rfl) rfl [(.int ((v265 - (16 : Int32)) - v4)), (.int v14), (.int (0 : Int32)), (.int v97), (.int v106), (.int v115)] rfl rfl (W := 0) (Nat.le_of_eq rfl) (by decide) (by decide) (by decide) (by decide) (lenOf pd_11 rfl) (hb hby at_342) rfl fun v119 T119 L119 X119 hQ119 => ?_
          obtain ⟨rfl, Nq119, eh119⟩ := hQ119
          have N119 := Fr.app N109 Nq119
          show Ga _ _ _ _ _ _ _ _ _ _ _ [(.int (own_ab ((v265 - (16 : Int32)) - v4) v14 (0 : Int32) v97 v106 v115))]
          refine g_istore X119 hx (Ls' := #[.val (.int p0), .val (.int p1), .val (.int p2), .val (.int p3), .val (.long p4), .second, .val (.int p5), .val (.int v4), .val (.int v14), .val (.int (0 : Int32)), .val (.int (0 : Int32)), .val (.int v70), .val (.int v79), .val (.int v88), .val (.int v97), .val (.int v106), .val (.int v115), .val (.ref b94), .val (.ref b95), .val (.ref b96), .val (.ref b96), .val (.ref b96), .val (.ref d_109), .val (.int (((16 : Int32) + v4) + v14)), .val (.int v265), .val (.int (own_ab ((v265 - (16 : Int32)) - v4) v14 (0 : Int32) v97 v106 v115))]) (hb hby at_345) rfl rfl ?_
          refine g_aload X119 hx (hb hby at_347) rfl rfl rfl ?_
          refine g_iload X119 hx (hb hby at_349) rfl rfl ?_
          refine g_baload X119 hx hZ eh119 p109_1 (v := (.int (own_T (((16 : Int32) + v4) + v14) (own_G p0 p1 p2 p3 (fun j => own_abN j v4.toNatClampNeg (0 : Int32).toNatClampNeg v70 v79 v88) (fun j => own_abN j v14.toNatClampNeg (0 : Int32).toNatClampNeg v97 v106 v115) v4.toNatClampNeg) v265.toNatClampNeg))) (own_kr hv265 htot) (hdg_109 _ (own_nat (own_kr hv265 htot).1 (own_kr hv265 htot).2)) (hb hby at_351) rfl ?_
          refine g_iload X119 hx (hb hby at_352) rfl rfl ?_
          have hc354 : (own_T (((16 : Int32) + v4) + v14) (own_G p0 p1 p2 p3 (fun j => own_abN j v4.toNatClampNeg (0 : Int32).toNatClampNeg v70 v79 v88) (fun j => own_abN j v14.toNatClampNeg (0 : Int32).toNatClampNeg v97 v106 v115) v4.toNatClampNeg) v265.toNatClampNeg) = (own_ab ((v265 - (16 : Int32)) - v4) v14 (0 : Int32) v97 v106 v115) := own_fin3 hc272 hc298 (own_kr hv265 htot).2 n4.2.2.2.1 n4.2.2.1 n14.2.2.2.1 n14.2.2.1 (by decide)
          refine g_icmpN X119 hx (hb hby at_354) rfl (XT.ii_ne_f hc354) ?_
          refine g_iconst X119 hx (r := (1 : Int32)) (hb hby at_357) rfl rfl ?_
          refine g_goto X119 hx (q := 362) (hb hby at_358) (by decide) (by decide) ?_
          exact g_retN X119 hx (t := .boolean) (r := (1 : Int32)) hret (by simp) hlk (hb hby at_362) rfl (by decide) (by decide) (by rw [eh119]; exact ⟨rfl, N119⟩)
set_option maxRecDepth 65536 in
set_option maxHeartbeats 40000000 in
theorem comes_1 {Post : Tables → Env → Array Value → State → Outcome → State → Prop} (hpost : ∀ tb e args s v u, (limb_1_1.after args s (.returned v) u = true ∧ limb_1_2.after args s (.returned v) u = true ∧ True) → FrameEnd s (.returned v) u (Jvm.fieldLocs frame_1_writes args s ++ Jvm.arrayLocs frame_1_arrays args s ++ Jvm.staticLocs frame_1_statics s) 32 1600 → Post tb e args s (.returned v) u) :
    ArmFor flags0 classFile x code maxLocals ret World_1 tables_1 room_1 Calls_1 rest_1 Pre_1 Post := by
  intro l hfl _ _ p e ha hc hk s m args below hf hA hF happ hP
  obtain ⟨hcalls, hrest, hpre⟩ := hP
  obtain ⟨-, -, -, hnamed, -, -, -, hat⟩ := (Spec.applies_iff hf).mp happ
  obtain ⟨hg, hn⟩ := and_e (Cond.before_iff.mp (show (Jvm.Cond.and given_1 narrow_1).before args s = true from hpre))
  obtain ⟨hcn, hg1⟩ := and_e hg
  obtain ⟨k1, hg2⟩ := and_e hg1
  obtain ⟨k2, hg3⟩ := and_e hg2
  obtain ⟨k3, hg4⟩ := and_e hg3
  obtain ⟨k4, hg5⟩ := and_e hg4
  obtain ⟨k5, hg6⟩ := and_e hg5
  have k6 := hg6
  obtain ⟨w0, w1, w2, w3, w4, w5, rfl⟩ : ∃ w0 w1 w2 w3 w4 w5 : Value, args = #[w0, w1, w2, w3, w4, w5] := by
    have hs : args.size = 6 := by simpa [Cond.value, given_1] using hcn
    obtain ⟨L⟩ := args
    match L, hs with
    | [w0, w1, w2, w3, w4, w5], _ => exact ⟨w0, w1, w2, w3, w4, w5, rfl⟩
  have hw := fun d (hd : d ∈ tables_1) => atoms_spec (ws := Jvm.Cond.code x code maxLocals ret :: tables_1) hat d (List.mem_cons_of_mem _ hd)
  have hfit : Fit s := fun {y c} hc i hi => by
    obtain ⟨ha, rfl⟩ := Array.getElem?_eq_some_iff.mp hc
    have q := List.all_eq_true.mp ((Array.all_eq_true_iff_forall_mem.mp hF) _ (Array.getElem_mem ha)) i (List.mem_range.mpr hi)
    simpa [Array.getElem?_eq_getElem hi] using q
  obtain ⟨i0, ei0⟩ := is_v k1
  obtain rfl : w0 = (.int i0) := Option.some.inj ei0
  obtain ⟨i1, ei1⟩ := is_v k2
  obtain rfl : w1 = (.int i1) := Option.some.inj ei1
  obtain ⟨i2, ei2⟩ := is_v k3
  obtain rfl : w2 = (.int i2) := Option.some.inj ei2
  obtain ⟨i3, ei3⟩ := is_v k4
  obtain rfl : w3 = (.int i3) := Option.some.inj ei3
  obtain ⟨i4, ei4⟩ := isL_v k5
  obtain rfl : w4 = (.long i4) := Option.some.inj ei4
  obtain ⟨i5, ei5⟩ := is_v k6
  obtain rfl : w5 = (.int i5) := Option.some.inj ei5
  obtain ⟨n, o, h1, h2, h3, _, L, rfl, ⟨rfl, N⟩, hq⟩ := rm_law l s _ hw tables_1 i0 i1 i2 i3 i4 i5 s.heap s.heap.size (Nat.le_refl _) p e ha hc hk s m _ below hf ((Spec.applies_iff_loose hf).mp happ).1 ⟨rfl, State.Warmed39.refl s, rfl⟩ trivial
  refine ⟨n, _, h1, h2, h3, hpost _ _ _ _ _ _ ⟨Cond.after_iff.mpr rfl, Cond.after_iff.mpr (eq_i res_at (Term.int_eval (1)) rfl), trivial⟩ ⟨hq.1, hq.2.1, (hq.2.2.sift fun y hy => Or.inr (N y hy)).mono (by decide) (by decide)⟩⟩
theorem main_1_1 : Claimed_1_1 := comes_1 fun _ _ _ _ _ _ h hF => ⟨h.1, hF⟩
theorem main_1_2 : Claimed_1_2 := comes_1 fun _ _ _ _ _ _ h hF => ⟨h.2.1, hF⟩
end Jvm.Pilot.@@N@@
namespace Jvm.Pilot.@@N@@
open Jvm Jvm.ClassFile Sem Op Lib Jvm.Free Jvm.Stand Jvm.Pilot.@@N@@.Jvm.D
/-! MADE BY PROGRAM (witnessworld.py) out of the Statement's table words and the real class files: 20 classes; the members and pool entries that the words name. The judged class is class 1, her method 1. -/
namespace start1
open Jvm.ClassFile
def u (s : String) : CpInfo := .utf8 (stringToUtf16 s)
/-- a pool by its gaps: so many unusable entries, then the entry; so many at the end -/
def gap : Nat → List CpInfo → List CpInfo
  | 0, r => r
  | n + 1, r => .unusable :: gap n r
def poolList (es : List (Nat × CpInfo)) (last : Nat) : List CpInfo := es.foldr (fun e r => gap e.1 (e.2 :: r)) (gap last [])
def pool (es : List (Nat × CpInfo)) (last : Nat) : Array CpInfo := ⟨poolList es last⟩
def fileOf (pool : Array CpInfo) (this : Nat) (attrs : Array Attribute := #[]) (ms : Array MethodInfo := #[]) (fl : Nat := 33) (sup : Nat := 0) (ifs : Array Nat := #[]) (fds : Array FieldInfo := #[]) : ClassFile where
  minorVersion := 0
  majorVersion := 65
  constantPool := pool
  accessFlags := fl
  thisClass := this
  superClass := sup
  interfaces := ifs
  fields := fds
  methods := ms
  attributes := attrs
def plain (name : String) (sup : Option ClassId) : Class where
  name := name
  kind := .ordinary
  loader := none
  accessFlags := 33
  super := sup
  interfaces := #[]
  cf := none
  fields := #[]
  methods := #[]
  instanceTypes := #[]
  staticTypes := #[]
  resolved := #[]
  callSites := []
  init := .initialized
  statics := none
  mirror := none

def pool0 : Array CpInfo := pool [(5, u "<init>"), (0, u "()V"), (1, .class_ 10), (1, u "java/lang/Object"), (85, u "clone"), (0, u "()Ljava/lang/Object;")] 26

def k0c0 : Code := { maxStack := 0, maxLocals := 1, code := object_method_1_code, exceptionTable := #[], attributes := #[] }
def k0m0 : Method := { name := "<init>", desc := "()V", sig := { parameters := [], returnType := none }, accessFlags := 1, code := some k0c0 }
def k0m1 : Method := { name := "clone", desc := "()Ljava/lang/Object;", sig := { parameters := [], returnType := some (.object "java/lang/Object") }, accessFlags := 260, code := none }
/-- java/lang/Object -/
def k0 : Class := { plain "java/lang/Object" none with
  accessFlags := 33
  interfaces := #[]
  cf := some (fileOf pool0 8 #[] #[{ accessFlags := 1, nameIndex := 5, descriptorIndex := 6, attributes := #[] }, { accessFlags := 260, nameIndex := 96, descriptorIndex := 97, attributes := #[] }] 33 0 #[] #[])
  fields := #[]
  methods := #[k0m0, k0m1]
  instanceTypes := #[]
  staticTypes := #[]
  resolved := Array.replicate 124 none
  statics := none }

def pool1 : Array CpInfo := pool [(2, .class_ 4), (1, u "java/lang/Object"), (0, u "<init>"), (0, u "()V"), (0, .long 255), (1, .class_ 10), (0, u "com/example/glowworm/glowworm/NetlinkWriter"), (0, .methodref 9 12), (0, .nameAndType 5 13), (0, u "(IIII)V"), (0, .methodref 9 15), (0, .nameAndType 16 17), (0, u "raw"), (0, u "([B)Lcom/example/glowworm/glowworm/NetlinkWriter;"), (0, .methodref 9 19), (0, .nameAndType 20 21), (0, u "toBytes"), (0, u "()[B"), (0, .methodref 23 24), (0, .class_ 25), (0, .nameAndType 26 27), (0, u "com/example/glowworm/glowworm/NetlinkWriterRawPinLaw"), (0, u "headerByte"), (0, u "(IIIIII)B"), (0, .methodref 23 29), (0, .nameAndType 30 31), (0, u "arrayByte"), (0, u "(IIIBBB)B"), (2, u "law"), (0, u "(IIIIJI)Z")] 5

def k1m0 : Method := { name := "<init>", desc := "()V", sig := { parameters := [], returnType := none }, accessFlags := 1, code := none }
def k1c1 : Code := { maxStack := 6, maxLocals := 26, code := code, exceptionTable := #[], attributes := #[] }
def k1m1 : Method := { name := "law", desc := "(IIIIJI)Z", sig := { parameters := [.int, .int, .int, .int, .long, .int], returnType := some .boolean }, accessFlags := 9, code := some k1c1 }
def k1c2 : Code := { maxStack := 3, maxLocals := 8, code := method_3_code, exceptionTable := #[], attributes := #[] }
def k1m2 : Method := { name := "headerByte", desc := "(IIIIII)B", sig := { parameters := [.int, .int, .int, .int, .int, .int], returnType := some .byte }, accessFlags := 10, code := some k1c2 }
def k1c3 : Code := { maxStack := 3, maxLocals := 6, code := method_4_code, exceptionTable := #[], attributes := #[] }
def k1m3 : Method := { name := "arrayByte", desc := "(IIIBBB)B", sig := { parameters := [.int, .int, .int, .byte, .byte, .byte], returnType := some .byte }, accessFlags := 10, code := some k1c3 }
/-- com/example/glowworm/glowworm/NetlinkWriterRawPinLaw -/
def k1 : Class := { plain "com/example/glowworm/glowworm/NetlinkWriterRawPinLaw" (some 0) with
  accessFlags := 49
  interfaces := #[]
  cf := some (fileOf pool1 23 #[] #[{ accessFlags := 1, nameIndex := 5, descriptorIndex := 6, attributes := #[] }, { accessFlags := 9, nameIndex := 34, descriptorIndex := 35, attributes := #[] }, { accessFlags := 10, nameIndex := 26, descriptorIndex := 27, attributes := #[] }, { accessFlags := 10, nameIndex := 30, descriptorIndex := 31, attributes := #[] }] 49 2 #[] #[])
  fields := #[]
  methods := #[k1m0, k1m1, k1m2, k1m3]
  instanceTypes := #[]
  staticTypes := #[]
  resolved := Array.replicate 41 none
  statics := none }

def pool2 : Array CpInfo := pool [(1, .methodref 2 3), (0, .class_ 4), (0, .nameAndType 5 6), (0, u "java/lang/Object"), (0, u "<init>"), (0, u "()V"), (0, .fieldref 8 9), (0, .class_ 10), (0, .nameAndType 11 12), (0, u "com/example/glowworm/glowworm/NetlinkWriter"), (0, u "bytes"), (0, u "[B"), (0, .class_ 14), (0, u "java/util/ArrayDeque"), (0, .methodref 13 3), (0, .fieldref 8 17), (0, .nameAndType 18 19), (0, u "openNests"), (0, u "Ljava/util/Deque;"), (0, .methodref 8 21), (0, .nameAndType 22 23), (0, u "putU32"), (0, u "(I)V"), (0, .methodref 8 25), (0, .nameAndType 26 23), (0, u "putU16"), (0, .methodref 8 28), (0, .nameAndType 29 30), (0, u "put"), (0, u "(B)V"), (3, u "(II)V"), (6, u "raw"), (0, u "([B)Lcom/example/glowworm/glowworm/NetlinkWriter;"), (12, .fieldref 8 56), (0, .nameAndType 57 58), (0, u "length"), (0, u "I"), (7, .class_ 68), (1, u "java/util/Deque"), (17, .methodref 8 87), (0, .nameAndType 88 34), (0, u "setU16"), (0, .interfaceMethodref 66 90), (0, .nameAndType 91 92), (0, u "isEmpty"), (0, u "()Z"), (12, .methodref 106 107), (0, .class_ 108), (0, .nameAndType 109 110), (0, u "java/util/Arrays"), (0, u "copyOf"), (0, u "([BI)[B"), (7, u "(IIII)V"), (17, u "toBytes"), (0, u "()[B")] 19

def k2c0 : Code := { maxStack := 3, maxLocals := 5, code := prog_15_method_1_code, exceptionTable := #[], attributes := #[] }
def k2m0 : Method := { name := "<init>", desc := "(IIII)V", sig := { parameters := [.int, .int, .int, .int], returnType := none }, accessFlags := 0, code := some k2c0 }
def k2c1 : Code := { maxStack := 2, maxLocals := 6, code := prog_15_method_4_code, exceptionTable := #[], attributes := #[] }
def k2m1 : Method := { name := "raw", desc := "([B)Lcom/example/glowworm/glowworm/NetlinkWriter;", sig := { parameters := [(.array .byte)], returnType := some (.object "com/example/glowworm/glowworm/NetlinkWriter") }, accessFlags := 0, code := some k2c1 }
def k2c2 : Code := { maxStack := 4, maxLocals := 1, code := prog_15_method_12_code, exceptionTable := #[], attributes := #[] }
def k2m2 : Method := { name := "toBytes", desc := "()[B", sig := { parameters := [], returnType := some (.array .byte) }, accessFlags := 0, code := some k2c2 }
def k2c3 : Code := { maxStack := 3, maxLocals := 2, code := prog_15_method_16_code, exceptionTable := #[], attributes := #[] }
def k2m3 : Method := { name := "putU16", desc := "(I)V", sig := { parameters := [.int], returnType := none }, accessFlags := 2, code := some k2c3 }
def k2c4 : Code := { maxStack := 3, maxLocals := 2, code := prog_15_method_17_code, exceptionTable := #[], attributes := #[] }
def k2m4 : Method := { name := "putU32", desc := "(I)V", sig := { parameters := [.int], returnType := none }, accessFlags := 2, code := some k2c4 }
def k2c5 : Code := { maxStack := 4, maxLocals := 3, code := prog_15_method_18_code, exceptionTable := #[], attributes := #[] }
def k2m5 : Method := { name := "setU16", desc := "(II)V", sig := { parameters := [.int, .int], returnType := none }, accessFlags := 2, code := some k2c5 }
def k2c6 : Code := { maxStack := 5, maxLocals := 2, code := prog_15_method_19_code, exceptionTable := #[], attributes := #[] }
def k2m6 : Method := { name := "put", desc := "(B)V", sig := { parameters := [.byte], returnType := none }, accessFlags := 2, code := some k2c6 }
/-- com/example/glowworm/glowworm/NetlinkWriter -/
def k2 : Class := { plain "com/example/glowworm/glowworm/NetlinkWriter" (some 0) with
  accessFlags := 48
  interfaces := #[]
  cf := some (fileOf pool2 8 #[] #[{ accessFlags := 0, nameIndex := 5, descriptorIndex := 118, attributes := #[] }, { accessFlags := 0, nameIndex := 41, descriptorIndex := 42, attributes := #[] }, { accessFlags := 0, nameIndex := 136, descriptorIndex := 137, attributes := #[] }, { accessFlags := 2, nameIndex := 26, descriptorIndex := 23, attributes := #[] }, { accessFlags := 2, nameIndex := 22, descriptorIndex := 23, attributes := #[] }, { accessFlags := 2, nameIndex := 88, descriptorIndex := 34, attributes := #[] }, { accessFlags := 2, nameIndex := 29, descriptorIndex := 30, attributes := #[] }] 48 2 #[] #[{ accessFlags := 2, nameIndex := 11, descriptorIndex := 12, attributes := #[] }, { accessFlags := 2, nameIndex := 57, descriptorIndex := 58, attributes := #[] }, { accessFlags := 18, nameIndex := 18, descriptorIndex := 19, attributes := #[] }])
  fields := #[{ name := "bytes", type := (.array .byte), accessFlags := 2, slot := 0, constantValue := 0 }, { name := "length", type := .int, accessFlags := 2, slot := 1, constantValue := 0 }, { name := "openNests", type := (.object "java/util/Deque"), accessFlags := 18, slot := 2, constantValue := 0 }]
  methods := #[k2m0, k2m1, k2m2, k2m3, k2m4, k2m5, k2m6]
  instanceTypes := #[(.array .byte), .int, (.object "java/util/Deque")]
  staticTypes := #[]
  resolved := Array.replicate 157 none
  statics := none }

def pool3 : Array CpInfo := pool [(8, .class_ 10), (1, u "java/lang/Iterable"), (24, .class_ 36), (0, u "java/lang/Object")] 25

/-- java/lang/Iterable -/
def k3 : Class := { plain "java/lang/Iterable" (some 0) with
  accessFlags := 1537
  interfaces := #[]
  cf := some (fileOf pool3 8 #[] #[] 1537 35 #[] #[])
  fields := #[]
  methods := #[]
  instanceTypes := #[]
  staticTypes := #[]
  resolved := Array.replicate 62 none
  statics := none }

def pool4 : Array CpInfo := pool [(10, .class_ 12), (1, u "java/util/Collection"), (17, u "()Z"), (29, .class_ 61), (0, u "java/lang/Object"), (0, .class_ 63), (0, u "java/lang/Iterable"), (2, u "isEmpty")] 48

def k4m0 : Method := { name := "isEmpty", desc := "()Z", sig := { parameters := [], returnType := some .boolean }, accessFlags := 1025, code := none }
/-- java/util/Collection -/
def k4 : Class := { plain "java/util/Collection" (some 0) with
  accessFlags := 1537
  interfaces := #[3]
  cf := some (fileOf pool4 10 #[] #[{ accessFlags := 1025, nameIndex := 66, descriptorIndex := 30, attributes := #[] }] 1537 60 #[62] #[])
  fields := #[]
  methods := #[k4m0]
  instanceTypes := #[]
  staticTypes := #[]
  resolved := Array.replicate 115 none
  statics := none }

def pool5 : Array CpInfo := pool [(1, .methodref 2 3), (0, .class_ 4), (0, .nameAndType 5 6), (0, u "java/lang/Object"), (0, u "<init>"), (0, u "()V"), (1, .class_ 10), (1, u "java/util/AbstractCollection"), (66, .class_ 78), (0, u "java/util/Collection")] 81

def k5c0 : Code := { maxStack := 1, maxLocals := 1, code := jdk_22_method_1_code, exceptionTable := #[], attributes := #[] }
def k5m0 : Method := { name := "<init>", desc := "()V", sig := { parameters := [], returnType := none }, accessFlags := 4, code := some k5c0 }
/-- java/util/AbstractCollection -/
def k5 : Class := { plain "java/util/AbstractCollection" (some 0) with
  accessFlags := 1057
  interfaces := #[4]
  cf := some (fileOf pool5 8 #[] #[{ accessFlags := 4, nameIndex := 5, descriptorIndex := 6, attributes := #[] }] 1057 2 #[77] #[])
  fields := #[]
  methods := #[k5m0]
  instanceTypes := #[]
  staticTypes := #[]
  resolved := Array.replicate 160 none
  statics := none }

def pool6 : Array CpInfo := pool [(1, .class_ 2), (0, u "java/util/Queue"), (0, .class_ 4), (0, u "java/lang/Object"), (0, .class_ 6), (0, u "java/util/Collection")] 14

/-- java/util/Queue -/
def k6 : Class := { plain "java/util/Queue" (some 0) with
  accessFlags := 1537
  interfaces := #[4]
  cf := some (fileOf pool6 1 #[] #[] 1537 3 #[5] #[])
  fields := #[]
  methods := #[]
  instanceTypes := #[]
  staticTypes := #[]
  resolved := Array.replicate 21 none
  statics := none }

def pool7 : Array CpInfo := pool [(8, .class_ 10), (1, u "java/util/SequencedCollection"), (15, .class_ 27), (0, u "java/lang/Object"), (0, .class_ 29), (0, u "java/util/Collection")] 27

/-- java/util/SequencedCollection -/
def k7 : Class := { plain "java/util/SequencedCollection" (some 0) with
  accessFlags := 1537
  interfaces := #[4]
  cf := some (fileOf pool7 8 #[] #[] 1537 26 #[28] #[])
  fields := #[]
  methods := #[]
  instanceTypes := #[]
  staticTypes := #[]
  resolved := Array.replicate 57 none
  statics := none }

def pool8 : Array CpInfo := pool [(8, .class_ 10), (1, u "java/util/Deque"), (2, .class_ 14), (0, u "java/lang/Object"), (0, .class_ 16), (0, u "java/util/Queue"), (0, .class_ 18), (0, u "java/util/SequencedCollection")] 51

/-- java/util/Deque -/
def k8 : Class := { plain "java/util/Deque" (some 0) with
  accessFlags := 1537
  interfaces := #[6, 7]
  cf := some (fileOf pool8 8 #[] #[] 1537 13 #[15, 17] #[])
  fields := #[]
  methods := #[]
  instanceTypes := #[]
  staticTypes := #[]
  resolved := Array.replicate 70 none
  statics := none }

def pool9 : Array CpInfo := pool [(1, .class_ 2), (0, u "java/lang/Cloneable"), (0, .class_ 4), (0, u "java/lang/Object")] 2

/-- java/lang/Cloneable -/
def k9 : Class := { plain "java/lang/Cloneable" (some 0) with
  accessFlags := 1537
  interfaces := #[]
  cf := some (fileOf pool9 1 #[] #[] 1537 3 #[] #[])
  fields := #[]
  methods := #[]
  instanceTypes := #[]
  staticTypes := #[]
  resolved := Array.replicate 7 none
  statics := none }

def pool10 : Array CpInfo := pool [(1, .class_ 2), (0, u "java/io/Serializable"), (0, .class_ 4), (0, u "java/lang/Object")] 2

/-- java/io/Serializable -/
def k10 : Class := { plain "java/io/Serializable" (some 0) with
  accessFlags := 1537
  interfaces := #[]
  cf := some (fileOf pool10 1 #[] #[] 1537 3 #[] #[])
  fields := #[]
  methods := #[]
  instanceTypes := #[]
  staticTypes := #[]
  resolved := Array.replicate 7 none
  statics := none }

def pool11 : Array CpInfo := pool [(3, .fieldref 4 5), (0, .class_ 6), (0, .nameAndType 7 8), (0, u "java/util/ArrayDeque"), (0, u "elements"), (0, u "[Ljava/lang/Object;"), (11, .fieldref 4 21), (0, .nameAndType 22 23), (0, u "tail"), (0, u "I"), (0, .fieldref 4 25), (0, .nameAndType 26 23), (0, u "head"), (12, u "<init>"), (2, .methodref 43 44), (0, .class_ 45), (0, .nameAndType 39 46), (0, u "java/util/AbstractCollection"), (0, u "()V"), (0, .class_ 48), (0, u "java/lang/Object"), (82, .class_ 132), (0, u "java/util/ArrayDeque$DeqIterator"), (3, .class_ 137), (0, u "java/util/ArrayDeque$DescendingIterator"), (1, .class_ 140), (0, u "java/util/ArrayDeque$DeqSpliterator"), (137, .class_ 279), (0, u "java/util/Deque"), (0, .class_ 281), (0, u "java/lang/Cloneable"), (0, .class_ 283), (0, u "java/io/Serializable"), (0, u "MAX_ARRAY_SIZE"), (1, u "serialVersionUID"), (0, u "J"), (59, u "isEmpty"), (0, u "()Z")] 89

def k11c0 : Code := { maxStack := 2, maxLocals := 1, code := jdk_21_method_3_code, exceptionTable := #[], attributes := #[] }
def k11m0 : Method := { name := "<init>", desc := "()V", sig := { parameters := [], returnType := none }, accessFlags := 1, code := some k11c0 }
def k11c1 : Code := { maxStack := 2, maxLocals := 1, code := jdk_21_method_38_code, exceptionTable := #[], attributes := #[] }
def k11m1 : Method := { name := "isEmpty", desc := "()Z", sig := { parameters := [], returnType := some .boolean }, accessFlags := 1, code := some k11c1 }
/-- java/util/ArrayDeque -/
def k11 : Class := { plain "java/util/ArrayDeque" (some 5) with
  accessFlags := 33
  interfaces := #[8, 9, 10]
  cf := some (fileOf pool11 4 #[.nestMembers #[139, 136, 131]] #[{ accessFlags := 1, nameIndex := 39, descriptorIndex := 46, attributes := #[] }, { accessFlags := 1, nameIndex := 347, descriptorIndex := 348, attributes := #[] }] 33 43 #[278, 280, 282] #[{ accessFlags := 128, nameIndex := 7, descriptorIndex := 8, attributes := #[] }, { accessFlags := 128, nameIndex := 26, descriptorIndex := 23, attributes := #[] }, { accessFlags := 128, nameIndex := 22, descriptorIndex := 23, attributes := #[] }, { accessFlags := 26, nameIndex := 284, descriptorIndex := 23, attributes := #[] }, { accessFlags := 26, nameIndex := 286, descriptorIndex := 287, attributes := #[] }])
  fields := #[{ name := "elements", type := (.array (.object "java/lang/Object")), accessFlags := 128, slot := 0, constantValue := 0 }, { name := "head", type := .int, accessFlags := 128, slot := 1, constantValue := 0 }, { name := "tail", type := .int, accessFlags := 128, slot := 2, constantValue := 0 }, { name := "MAX_ARRAY_SIZE", type := .int, accessFlags := 26, slot := 0, constantValue := 0 }, { name := "serialVersionUID", type := .long, accessFlags := 26, slot := 1, constantValue := 0 }]
  methods := #[k11m0, k11m1]
  instanceTypes := #[(.array (.object "java/lang/Object")), .int, .int]
  staticTypes := #[.int, .long]
  resolved := Array.replicate 438 none
  statics := none }

def pool12 : Array CpInfo := pool [(2, .class_ 4), (1, u "java/lang/Object"), (0, u "<init>"), (0, u "()V"), (7, .class_ 16), (1, u "java/util/Arrays"), (57, .class_ 76), (1, u "java/util/Arrays$NaturalOrder"), (32, u "()Ljava/lang/Object;"), (3, .class_ 115), (1, u "java/util/Arrays$LegacyMergeSort"), (1, u "Z"), (10, .nameAndType 129 109), (0, u "clone"), (20, .methodref 151 152), (0, .class_ 153), (0, .nameAndType 154 155), (0, u "java/lang/System"), (0, u "arraycopy"), (0, u "(Ljava/lang/Object;ILjava/lang/Object;II)V"), (146, u "copyOf"), (1, .methodref 305 306), (0, .class_ 307), (0, .nameAndType 308 309), (0, u "java/lang/Math"), (0, u "min"), (0, u "(II)I"), (0, .methodref 311 128), (0, .class_ 312), (0, u "[B"), (62, .class_ 376), (0, u "java/util/Arrays$ArrayList"), (68, u "$assertionsDisabled"), (269, u "MIN_ARRAY_SORT_GRAN"), (0, u "I"), (2, u "INSERTIONSORT_THRESHOLD"), (149, u "([BI)[B"), (105, .class_ 976), (0, u "java/util/Arrays$ArrayItr")] 52

def k12m0 : Method := { name := "<init>", desc := "()V", sig := { parameters := [], returnType := none }, accessFlags := 2, code := none }
def k12c1 : Code := { maxStack := 6, maxLocals := 3, code := jdk_65_method_121_code, exceptionTable := #[], attributes := #[] }
def k12m1 : Method := { name := "copyOf", desc := "([BI)[B", sig := { parameters := [(.array .byte), .int], returnType := some (.array .byte) }, accessFlags := 9, code := some k12c1 }
/-- java/util/Arrays -/
def k12 : Class := { plain "java/util/Arrays" (some 0) with
  accessFlags := 49
  interfaces := #[]
  cf := some (fileOf pool12 14 #[.nestMembers #[975, 375, 113, 74]] #[{ accessFlags := 2, nameIndex := 5, descriptorIndex := 6, attributes := #[] }, { accessFlags := 9, nameIndex := 302, descriptorIndex := 869, attributes := #[] }] 49 2 #[] #[{ accessFlags := 26, nameIndex := 715, descriptorIndex := 716, attributes := #[] }, { accessFlags := 26, nameIndex := 719, descriptorIndex := 716, attributes := #[] }, { accessFlags := 4120, nameIndex := 445, descriptorIndex := 117, attributes := #[] }])
  fields := #[{ name := "MIN_ARRAY_SORT_GRAN", type := .int, accessFlags := 26, slot := 0, constantValue := 0 }, { name := "INSERTIONSORT_THRESHOLD", type := .int, accessFlags := 26, slot := 1, constantValue := 0 }, { name := "$assertionsDisabled", type := .boolean, accessFlags := 4120, slot := 2, constantValue := 0 }]
  methods := #[k12m0, k12m1]
  instanceTypes := #[]
  staticTypes := #[.int, .int, .boolean]
  resolved := Array.replicate 1029 none
  statics := none }

def pool13 : Array CpInfo := pool [(1, .class_ 2), (0, u "java/lang/Math"), (1, .class_ 6), (1, u "java/lang/Object"), (0, u "<init>"), (0, u "()V"), (89, .class_ 100), (1, u "java/lang/Math$RandomNumberGeneratorHolder"), (71, u "negativeZeroFloatBits"), (0, u "J"), (2, u "negativeZeroDoubleBits"), (24, u "min"), (43, u "$assertionsDisabled"), (0, u "Z"), (88, u "(II)I"), (2, u "twoToTheDoubleScaleDown"), (0, u "D"), (4, u "twoToTheDoubleScaleUp"), (9, u "E"), (3, u "PI"), (2, u "TAU"), (2, u "DEGREES_TO_RADIANS"), (0, u "RADIANS_TO_DEGREES")] 94

def k13m0 : Method := { name := "<init>", desc := "()V", sig := { parameters := [], returnType := none }, accessFlags := 2, code := none }
def k13c1 : Code := { maxStack := 2, maxLocals := 2, code := jdk_29_method_69_code, exceptionTable := #[], attributes := #[] }
def k13m1 : Method := { name := "min", desc := "(II)I", sig := { parameters := [.int, .int], returnType := some .int }, accessFlags := 9, code := some k13c1 }
/-- java/lang/Math -/
def k13 : Class := { plain "java/lang/Math" (some 0) with
  accessFlags := 49
  interfaces := #[]
  cf := some (fileOf pool13 1 #[.nestMembers #[98]] #[{ accessFlags := 2, nameIndex := 7, descriptorIndex := 8, attributes := #[] }, { accessFlags := 9, nameIndex := 201, descriptorIndex := 335, attributes := #[] }] 49 4 #[] #[{ accessFlags := 25, nameIndex := 354, descriptorIndex := 339, attributes := #[] }, { accessFlags := 25, nameIndex := 358, descriptorIndex := 339, attributes := #[] }, { accessFlags := 25, nameIndex := 361, descriptorIndex := 339, attributes := #[] }, { accessFlags := 26, nameIndex := 364, descriptorIndex := 339, attributes := #[] }, { accessFlags := 26, nameIndex := 365, descriptorIndex := 339, attributes := #[] }, { accessFlags := 26, nameIndex := 172, descriptorIndex := 173, attributes := #[] }, { accessFlags := 26, nameIndex := 176, descriptorIndex := 173, attributes := #[] }, { accessFlags := 8, nameIndex := 344, descriptorIndex := 339, attributes := #[] }, { accessFlags := 8, nameIndex := 338, descriptorIndex := 339, attributes := #[] }, { accessFlags := 4120, nameIndex := 245, descriptorIndex := 246, attributes := #[] }])
  fields := #[{ name := "E", type := .double, accessFlags := 25, slot := 0, constantValue := 0 }, { name := "PI", type := .double, accessFlags := 25, slot := 1, constantValue := 0 }, { name := "TAU", type := .double, accessFlags := 25, slot := 2, constantValue := 0 }, { name := "DEGREES_TO_RADIANS", type := .double, accessFlags := 26, slot := 3, constantValue := 0 }, { name := "RADIANS_TO_DEGREES", type := .double, accessFlags := 26, slot := 4, constantValue := 0 }, { name := "negativeZeroFloatBits", type := .long, accessFlags := 26, slot := 5, constantValue := 0 }, { name := "negativeZeroDoubleBits", type := .long, accessFlags := 26, slot := 6, constantValue := 0 }, { name := "twoToTheDoubleScaleUp", type := .double, accessFlags := 8, slot := 7, constantValue := 0 }, { name := "twoToTheDoubleScaleDown", type := .double, accessFlags := 8, slot := 8, constantValue := 0 }, { name := "$assertionsDisabled", type := .boolean, accessFlags := 4120, slot := 9, constantValue := 0 }]
  methods := #[k13m0, k13m1]
  instanceTypes := #[]
  staticTypes := #[.double, .double, .double, .double, .double, .long, .long, .double, .double, .boolean]
  resolved := Array.replicate 460 none
  statics := none }

def pool14 : Array CpInfo := pool [(2, .class_ 4), (1, u "java/lang/Object"), (0, u "<init>"), (0, u "()V"), (1, .class_ 10), (1, u "java/lang/System"), (0, u "allowSecurityManager"), (0, u "I"), (16, u "cons"), (0, u "Ljava/io/Console;"), (77, .class_ 110), (1, u "java/lang/System$CallersHolder"), (43, u "initialErrStream"), (0, u "Ljava/io/PrintStream;"), (19, u "security"), (0, u "Ljava/lang/SecurityManager;"), (31, .class_ 209), (0, u "java/lang/System$1"), (7, u "props"), (0, u "Ljava/util/Properties;"), (2, u "lineSeparator"), (0, u "Ljava/lang/String;"), (96, .class_ 321), (1, u "java/lang/System$LoggerFinder"), (5, .class_ 328), (0, u "java/lang/System$Logger"), (67, u "err"), (2, u "out"), (91, u "notSupportedJnuEncoding"), (15, u "in"), (17, u "initialIn"), (0, u "Ljava/io/InputStream;"), (35, u "bootLayer"), (0, u "Ljava/lang/ModuleLayer;"), (99, .class_ 664), (0, u "java/lang/System$2"), (9, u "NEVER"), (2, u "MAYBE"), (49, u "arraycopy"), (0, u "(Ljava/lang/Object;ILjava/lang/Object;II)V"), (72, .class_ 802), (0, u "java/lang/System$Logger$Level")] 31

def k14m0 : Method := { name := "<init>", desc := "()V", sig := { parameters := [], returnType := none }, accessFlags := 2, code := none }
def k14m1 : Method := { name := "arraycopy", desc := "(Ljava/lang/Object;ILjava/lang/Object;II)V", sig := { parameters := [(.object "java/lang/Object"), .int, (.object "java/lang/Object"), .int, .int], returnType := none }, accessFlags := 265, code := none }
/-- java/lang/System -/
def k14 : Class := { plain "java/lang/System" (some 0) with
  accessFlags := 49
  interfaces := #[]
  cf := some (fileOf pool14 8 #[.nestMembers #[319, 327, 801, 108, 663, 208]] #[{ accessFlags := 2, nameIndex := 5, descriptorIndex := 6, attributes := #[] }, { accessFlags := 265, nameIndex := 727, descriptorIndex := 728, attributes := #[] }] 49 2 #[] #[{ accessFlags := 25, nameIndex := 507, descriptorIndex := 526, attributes := #[] }, { accessFlags := 25, nameIndex := 399, descriptorIndex := 155, attributes := #[] }, { accessFlags := 25, nameIndex := 396, descriptorIndex := 155, attributes := #[] }, { accessFlags := 10, nameIndex := 525, descriptorIndex := 526, attributes := #[] }, { accessFlags := 26, nameIndex := 674, descriptorIndex := 12, attributes := #[] }, { accessFlags := 26, nameIndex := 677, descriptorIndex := 12, attributes := #[] }, { accessFlags := 10, nameIndex := 11, descriptorIndex := 12, attributes := #[] }, { accessFlags := 74, nameIndex := 175, descriptorIndex := 176, attributes := #[] }, { accessFlags := 10, nameIndex := 491, descriptorIndex := 222, attributes := #[] }, { accessFlags := 74, nameIndex := 29, descriptorIndex := 30, attributes := #[] }, { accessFlags := 74, nameIndex := 154, descriptorIndex := 155, attributes := #[] }, { accessFlags := 10, nameIndex := 217, descriptorIndex := 218, attributes := #[] }, { accessFlags := 10, nameIndex := 221, descriptorIndex := 222, attributes := #[] }, { accessFlags := 8, nameIndex := 562, descriptorIndex := 563, attributes := #[] }])
  fields := #[{ name := "in", type := (.object "java/io/InputStream"), accessFlags := 25, slot := 0, constantValue := 0 }, { name := "out", type := (.object "java/io/PrintStream"), accessFlags := 25, slot := 1, constantValue := 0 }, { name := "err", type := (.object "java/io/PrintStream"), accessFlags := 25, slot := 2, constantValue := 0 }, { name := "initialIn", type := (.object "java/io/InputStream"), accessFlags := 10, slot := 3, constantValue := 0 }, { name := "NEVER", type := .int, accessFlags := 26, slot := 4, constantValue := 0 }, { name := "MAYBE", type := .int, accessFlags := 26, slot := 5, constantValue := 0 }, { name := "allowSecurityManager", type := .int, accessFlags := 10, slot := 6, constantValue := 0 }, { name := "security", type := (.object "java/lang/SecurityManager"), accessFlags := 74, slot := 7, constantValue := 0 }, { name := "notSupportedJnuEncoding", type := (.object "java/lang/String"), accessFlags := 10, slot := 8, constantValue := 0 }, { name := "cons", type := (.object "java/io/Console"), accessFlags := 74, slot := 9, constantValue := 0 }, { name := "initialErrStream", type := (.object "java/io/PrintStream"), accessFlags := 74, slot := 10, constantValue := 0 }, { name := "props", type := (.object "java/util/Properties"), accessFlags := 10, slot := 11, constantValue := 0 }, { name := "lineSeparator", type := (.object "java/lang/String"), accessFlags := 10, slot := 12, constantValue := 0 }, { name := "bootLayer", type := (.object "java/lang/ModuleLayer"), accessFlags := 8, slot := 13, constantValue := 0 }]
  methods := #[k14m0, k14m1]
  instanceTypes := #[]
  staticTypes := #[(.object "java/io/InputStream"), (.object "java/io/PrintStream"), (.object "java/io/PrintStream"), (.object "java/io/InputStream"), .int, .int, .int, (.object "java/lang/SecurityManager"), (.object "java/lang/String"), (.object "java/io/Console"), (.object "java/io/PrintStream"), (.object "java/util/Properties"), (.object "java/lang/String"), (.object "java/lang/ModuleLayer")]
  resolved := Array.replicate 834 none
  statics := none }

/-- the primitive byte -/
def k15 : Class := { plain "byte" none with kind := .primitive 'B', accessFlags := 0x411 }
/-- [B -/
def k16 : Class := { plain "[B" (some 0) with kind := .array 15 .byte, interfaces := #[9, 10], accessFlags := 1041 }

/-- the primitive int -/
def k17 : Class := { plain "int" none with kind := .primitive 'I', accessFlags := 0x411 }
/-- [I -/
def k18 : Class := { plain "[I" (some 0) with kind := .array 17 .int, interfaces := #[9, 10], accessFlags := 1041 }

/-- [Ljava/lang/Object; -/
def k19 : Class := { plain "[Ljava/lang/Object;" (some 0) with kind := .array 0 (.object "java/lang/Object"), interfaces := #[9, 10], accessFlags := 1041 }

def heap : Heap := #[]
def classes : Array Class := #[k0, k1, k2, k3, k4, k5, k6, k7, k8, k9, k10, k11, k12, k13, k14, k15, k16, k17, k18, k19]
def interned : List (Array UInt16 × Addr) := []
def slotsUsed : Nat := 0
def theMethod : MethodId := ⟨1, 1⟩
def args0 : Array Value := #[.int 5, .int 5, .int 5, .int 5, .long 5, .int 5]
def aboutOver (below : List Frame) : State where
  vm := { classes := classes, interned := interned.toArray }
  heap := heap
  slotsUsed := slotsUsed
  threads := #[{ frames := .invoking theMethod args0 :: below }]
def below0 : List Frame := [.native { method := ⟨0, 0⟩, args := #[] }]
def about1 : State := aboutOver below0
def p0 : Program := .bare "" "" ""
def e0 : Env := launch0.env 0 0 0
theorem w_frames : about1.frames = Frame.invoking theMethod args0 :: below0 := rfl
set_option maxRecDepth 65536 in
theorem w_args : argsFit about1.vm theMethod args0 = true := by decide +kernel
set_option maxRecDepth 65536 in
theorem w_heap : heapFits about1 = true := by decide +kernel
set_option maxRecDepth 65536 in
theorem w_runnable : about1.curStatus? = some .runnable := by decide +kernel
set_option maxRecDepth 65536 in
theorem w_alone : about1.alone = true := by decide +kernel
set_option maxRecDepth 65536 in
theorem w_named : about1.methodNamed? x = some theMethod := by decide +kernel
set_option maxRecDepth 65536 in
theorem w_hears : about1.hears theMethod below0 = true := by decide +kernel
set_option maxRecDepth 65536 in
theorem w_ripe : about1.ripe theMethod args0 below0 = true := by decide +kernel
theorem w_running : about1.status = .running := rfl
set_option maxRecDepth 65536 in
theorem w_room : about1.hasRoom e0.platform room_1 = true :=
  launch0.hasRoom_least _ room_1 (by decide +kernel) (by decide +kernel) (by decide +kernel) (by decide +kernel) (by decide +kernel) (by decide +kernel)
theorem allAtoms_all (ts : List Jvm.Cond) (a : Array Jvm.Value) (st : Jvm.State) : (allAtoms ts).before a st = ts.all (fun c => c.before a st) := by
  induction ts with
  | nil => rfl
  | cons c t ih =>
    show (Jvm.Cond.and c (allAtoms t)).before a st = _
    rw [Jvm.Cond.before_and, ih, List.all_cons]
def words1 : List Jvm.Cond := Jvm.Cond.code x code maxLocals ret :: tables_1
/-- a 'code' word, met by the world's own term for the bytes: nothing is compared byte by byte -/
theorem code_word {y : MethodName} {bytes : ByteArray} {mx : Nat} {rt : Option FieldType} {a : Array Value} {s : State} {m : MethodId} {meth : Method} {c : Code} (h1 : s.methodNamed? y = some m) (h2 : s.vm.method? m = some meth) (h3 : meth.code = some c) (h4 : c.code = bytes)
    (h5 : (c.maxLocals == mx && c.exceptionTable.isEmpty && decide (c.maxStack ≤ mostOperands) && decide (meth.sig.returnType = rt) && !meth.locks && decide (parseMethodDescriptor y.desc = some meth.sig)) = true) : (Jvm.Cond.code y bytes mx rt).before a s = true := by
  simp only [Bool.and_eq_true, beq_iff_eq, Bool.not_eq_true', decide_eq_true_eq] at h5
  obtain ⟨⟨⟨⟨⟨g1, g2⟩, g3⟩, g4⟩, g5⟩, g6⟩ := h5
  simp [Cond.before, Cond.holds, Cond.value, h1, h2, h3, h4, g1, g2, g3, g4, g5, g6]
def isCode : Jvm.Cond → Bool
  | .code _ _ _ _ => true
  | _ => false
theorem all_split {L : List Jvm.Cond} {P : Jvm.Cond → Bool} (h1 : L.all (fun c => isCode c || P c) = true) (h2 : ∀ c ∈ L.filter isCode, P c = true) : L.all P = true := by
  refine List.all_eq_true.mpr fun c hc => ?_
  have h := List.all_eq_true.mp h1 c hc
  rcases Bool.eq_false_or_eq_true (isCode c) with hi | hi
  · exact h2 c (List.mem_filter.mpr ⟨hc, hi⟩)
  · simpa [hi] using h
set_option maxRecDepth 65536 in
theorem w_c0 : (Jvm.Cond.code x code maxLocals ret).before args0 about1 = true := code_word (m := ⟨1, 1⟩) (meth := k1m1) (c := k1c1) (by decide +kernel) rfl rfl rfl (by decide +kernel)
set_option maxRecDepth 65536 in
theorem w_c1 : (Jvm.Cond.code ({ cls := "com/example/glowworm/glowworm/NetlinkWriter", name := "<init>", desc := "(IIII)V" } : Jvm.MethodName) prog_15_method_1_code (5 : Nat) (Option.none : Option Jvm.ClassFile.FieldType)).before args0 about1 = true := code_word (m := ⟨2, 0⟩) (meth := k2m0) (c := k2c0) (by decide +kernel) rfl rfl rfl (by decide +kernel)
set_option maxRecDepth 65536 in
theorem w_c2 : (Jvm.Cond.code ({ cls := "java/lang/Object", name := "<init>", desc := "()V" } : Jvm.MethodName) object_method_1_code (1 : Nat) (Option.none : Option Jvm.ClassFile.FieldType)).before args0 about1 = true := code_word (m := ⟨0, 0⟩) (meth := k0m0) (c := k0c0) (by decide +kernel) rfl rfl rfl (by decide +kernel)
set_option maxRecDepth 65536 in
theorem w_c3 : (Jvm.Cond.code ({ cls := "java/util/ArrayDeque", name := "<init>", desc := "()V" } : Jvm.MethodName) jdk_21_method_3_code (1 : Nat) (Option.none : Option Jvm.ClassFile.FieldType)).before args0 about1 = true := code_word (m := ⟨11, 0⟩) (meth := k11m0) (c := k11c0) (by decide +kernel) rfl rfl rfl (by decide +kernel)
set_option maxRecDepth 65536 in
theorem w_c4 : (Jvm.Cond.code ({ cls := "java/util/AbstractCollection", name := "<init>", desc := "()V" } : Jvm.MethodName) jdk_22_method_1_code (1 : Nat) (Option.none : Option Jvm.ClassFile.FieldType)).before args0 about1 = true := code_word (m := ⟨5, 0⟩) (meth := k5m0) (c := k5c0) (by decide +kernel) rfl rfl rfl (by decide +kernel)
set_option maxRecDepth 65536 in
theorem w_c5 : (Jvm.Cond.code ({ cls := "com/example/glowworm/glowworm/NetlinkWriter", name := "putU32", desc := "(I)V" } : Jvm.MethodName) prog_15_method_17_code (2 : Nat) (Option.none : Option Jvm.ClassFile.FieldType)).before args0 about1 = true := code_word (m := ⟨2, 4⟩) (meth := k2m4) (c := k2c4) (by decide +kernel) rfl rfl rfl (by decide +kernel)
set_option maxRecDepth 65536 in
theorem w_c6 : (Jvm.Cond.code ({ cls := "com/example/glowworm/glowworm/NetlinkWriter", name := "putU16", desc := "(I)V" } : Jvm.MethodName) prog_15_method_16_code (2 : Nat) (Option.none : Option Jvm.ClassFile.FieldType)).before args0 about1 = true := code_word (m := ⟨2, 3⟩) (meth := k2m3) (c := k2c3) (by decide +kernel) rfl rfl rfl (by decide +kernel)
set_option maxRecDepth 65536 in
theorem w_c7 : (Jvm.Cond.code ({ cls := "com/example/glowworm/glowworm/NetlinkWriter", name := "put", desc := "(B)V" } : Jvm.MethodName) prog_15_method_19_code (2 : Nat) (Option.none : Option Jvm.ClassFile.FieldType)).before args0 about1 = true := code_word (m := ⟨2, 6⟩) (meth := k2m6) (c := k2c6) (by decide +kernel) rfl rfl rfl (by decide +kernel)
set_option maxRecDepth 65536 in
theorem w_c8 : (Jvm.Cond.code ({ cls := "com/example/glowworm/glowworm/NetlinkWriter", name := "raw", desc := "([B)Lcom/example/glowworm/glowworm/NetlinkWriter;" } : Jvm.MethodName) prog_15_method_4_code (6 : Nat) (Option.some (Jvm.ClassFile.FieldType.object "com/example/glowworm/glowworm/NetlinkWriter"))).before args0 about1 = true := code_word (m := ⟨2, 1⟩) (meth := k2m1) (c := k2c1) (by decide +kernel) rfl rfl rfl (by decide +kernel)
set_option maxRecDepth 65536 in
theorem w_c9 : (Jvm.Cond.code ({ cls := "com/example/glowworm/glowworm/NetlinkWriter", name := "toBytes", desc := "()[B" } : Jvm.MethodName) prog_15_method_12_code (1 : Nat) (Option.some (Jvm.ClassFile.FieldType.array Jvm.ClassFile.FieldType.byte))).before args0 about1 = true := code_word (m := ⟨2, 2⟩) (meth := k2m2) (c := k2c2) (by decide +kernel) rfl rfl rfl (by decide +kernel)
set_option maxRecDepth 65536 in
theorem w_c10 : (Jvm.Cond.code ({ cls := "java/util/ArrayDeque", name := "isEmpty", desc := "()Z" } : Jvm.MethodName) jdk_21_method_38_code (1 : Nat) (Option.some Jvm.ClassFile.FieldType.boolean)).before args0 about1 = true := code_word (m := ⟨11, 1⟩) (meth := k11m1) (c := k11c1) (by decide +kernel) rfl rfl rfl (by decide +kernel)
set_option maxRecDepth 65536 in
theorem w_c11 : (Jvm.Cond.code ({ cls := "com/example/glowworm/glowworm/NetlinkWriter", name := "setU16", desc := "(II)V" } : Jvm.MethodName) prog_15_method_18_code (3 : Nat) (Option.none : Option Jvm.ClassFile.FieldType)).before args0 about1 = true := code_word (m := ⟨2, 5⟩) (meth := k2m5) (c := k2c5) (by decide +kernel) rfl rfl rfl (by decide +kernel)
set_option maxRecDepth 65536 in
theorem w_c12 : (Jvm.Cond.code ({ cls := "java/util/Arrays", name := "copyOf", desc := "([BI)[B" } : Jvm.MethodName) jdk_65_method_121_code (3 : Nat) (Option.some (Jvm.ClassFile.FieldType.array Jvm.ClassFile.FieldType.byte))).before args0 about1 = true := code_word (m := ⟨12, 1⟩) (meth := k12m1) (c := k12c1) (by decide +kernel) rfl rfl rfl (by decide +kernel)
set_option maxRecDepth 65536 in
theorem w_c13 : (Jvm.Cond.code ({ cls := "java/lang/Math", name := "min", desc := "(II)I" } : Jvm.MethodName) jdk_29_method_69_code (2 : Nat) (Option.some Jvm.ClassFile.FieldType.int)).before args0 about1 = true := code_word (m := ⟨13, 1⟩) (meth := k13m1) (c := k13c1) (by decide +kernel) rfl rfl rfl (by decide +kernel)
set_option maxRecDepth 65536 in
theorem w_c14 : (Jvm.Cond.code ({ cls := "com/example/glowworm/glowworm/NetlinkWriterRawPinLaw", name := "headerByte", desc := "(IIIIII)B" } : Jvm.MethodName) method_3_code (8 : Nat) (Option.some Jvm.ClassFile.FieldType.byte)).before args0 about1 = true := code_word (m := ⟨1, 2⟩) (meth := k1m2) (c := k1c2) (by decide +kernel) rfl rfl rfl (by decide +kernel)
set_option maxRecDepth 65536 in
theorem w_c15 : (Jvm.Cond.code ({ cls := "com/example/glowworm/glowworm/NetlinkWriterRawPinLaw", name := "arrayByte", desc := "(IIIBBB)B" } : Jvm.MethodName) method_4_code (6 : Nat) (Option.some Jvm.ClassFile.FieldType.byte)).before args0 about1 = true := code_word (m := ⟨1, 3⟩) (meth := k1m3) (c := k1c3) (by decide +kernel) rfl rfl rfl (by decide +kernel)
def codes1 : List Jvm.Cond := [Jvm.Cond.code x code maxLocals ret, Jvm.Cond.code ({ cls := "com/example/glowworm/glowworm/NetlinkWriter", name := "<init>", desc := "(IIII)V" } : Jvm.MethodName) prog_15_method_1_code (5 : Nat) (Option.none : Option Jvm.ClassFile.FieldType), Jvm.Cond.code ({ cls := "java/lang/Object", name := "<init>", desc := "()V" } : Jvm.MethodName) object_method_1_code (1 : Nat) (Option.none : Option Jvm.ClassFile.FieldType), Jvm.Cond.code ({ cls := "java/util/ArrayDeque", name := "<init>", desc := "()V" } : Jvm.MethodName) jdk_21_method_3_code (1 : Nat) (Option.none : Option Jvm.ClassFile.FieldType), Jvm.Cond.code ({ cls := "java/util/AbstractCollection", name := "<init>", desc := "()V" } : Jvm.MethodName) jdk_22_method_1_code (1 : Nat) (Option.none : Option Jvm.ClassFile.FieldType), Jvm.Cond.code ({ cls := "com/example/glowworm/glowworm/NetlinkWriter", name := "putU32", desc := "(I)V" } : Jvm.MethodName) prog_15_method_17_code (2 : Nat) (Option.none : Option Jvm.ClassFile.FieldType), Jvm.Cond.code ({ cls := "com/example/glowworm/glowworm/NetlinkWriter", name := "putU16", desc := "(I)V" } : Jvm.MethodName) prog_15_method_16_code (2 : Nat) (Option.none : Option Jvm.ClassFile.FieldType), Jvm.Cond.code ({ cls := "com/example/glowworm/glowworm/NetlinkWriter", name := "put", desc := "(B)V" } : Jvm.MethodName) prog_15_method_19_code (2 : Nat) (Option.none : Option Jvm.ClassFile.FieldType), Jvm.Cond.code ({ cls := "com/example/glowworm/glowworm/NetlinkWriter", name := "raw", desc := "([B)Lcom/example/glowworm/glowworm/NetlinkWriter;" } : Jvm.MethodName) prog_15_method_4_code (6 : Nat) (Option.some (Jvm.ClassFile.FieldType.object "com/example/glowworm/glowworm/NetlinkWriter")), Jvm.Cond.code ({ cls := "com/example/glowworm/glowworm/NetlinkWriter", name := "toBytes", desc := "()[B" } : Jvm.MethodName) prog_15_method_12_code (1 : Nat) (Option.some (Jvm.ClassFile.FieldType.array Jvm.ClassFile.FieldType.byte)), Jvm.Cond.code ({ cls := "java/util/ArrayDeque", name := "isEmpty", desc := "()Z" } : Jvm.MethodName) jdk_21_method_38_code (1 : Nat) (Option.some Jvm.ClassFile.FieldType.boolean), Jvm.Cond.code ({ cls := "com/example/glowworm/glowworm/NetlinkWriter", name := "setU16", desc := "(II)V" } : Jvm.MethodName) prog_15_method_18_code (3 : Nat) (Option.none : Option Jvm.ClassFile.FieldType), Jvm.Cond.code ({ cls := "java/util/Arrays", name := "copyOf", desc := "([BI)[B" } : Jvm.MethodName) jdk_65_method_121_code (3 : Nat) (Option.some (Jvm.ClassFile.FieldType.array Jvm.ClassFile.FieldType.byte)), Jvm.Cond.code ({ cls := "java/lang/Math", name := "min", desc := "(II)I" } : Jvm.MethodName) jdk_29_method_69_code (2 : Nat) (Option.some Jvm.ClassFile.FieldType.int), Jvm.Cond.code ({ cls := "com/example/glowworm/glowworm/NetlinkWriterRawPinLaw", name := "headerByte", desc := "(IIIIII)B" } : Jvm.MethodName) method_3_code (8 : Nat) (Option.some Jvm.ClassFile.FieldType.byte), Jvm.Cond.code ({ cls := "com/example/glowworm/glowworm/NetlinkWriterRawPinLaw", name := "arrayByte", desc := "(IIIBBB)B" } : Jvm.MethodName) method_4_code (6 : Nat) (Option.some Jvm.ClassFile.FieldType.byte)]
set_option maxRecDepth 65536 in
theorem codes_eq : words1.filter isCode = codes1 := rfl
theorem w_codes : ∀ c ∈ words1.filter isCode, c.before args0 about1 = true := by
  rw [codes_eq]
  intro c hc
  simp only [codes1, List.mem_cons, List.not_mem_nil, or_false] at hc
  rcases hc with rfl | rfl | rfl | rfl | rfl | rfl | rfl | rfl | rfl | rfl | rfl | rfl | rfl | rfl | rfl | rfl
  · exact w_c0
  · exact w_c1
  · exact w_c2
  · exact w_c3
  · exact w_c4
  · exact w_c5
  · exact w_c6
  · exact w_c7
  · exact w_c8
  · exact w_c9
  · exact w_c10
  · exact w_c11
  · exact w_c12
  · exact w_c13
  · exact w_c14
  · exact w_c15
set_option maxRecDepth 65536 in
theorem w_t1 : (words1.take 24).all (fun c => isCode c || c.before args0 about1) = true := by decide +kernel
set_option maxRecDepth 65536 in
theorem w_t2 : ((words1.drop 24).take 24).all (fun c => isCode c || c.before args0 about1) = true := by decide +kernel
set_option maxRecDepth 65536 in
theorem w_t3 : (((words1.drop 24).drop 24).take 24).all (fun c => isCode c || c.before args0 about1) = true := by decide +kernel
set_option maxRecDepth 65536 in
theorem w_t4 : ((((words1.drop 24).drop 24).drop 24).take 24).all (fun c => isCode c || c.before args0 about1) = true := by decide +kernel
set_option maxRecDepth 65536 in
theorem w_t5 : ((((words1.drop 24).drop 24).drop 24).drop 24).all (fun c => isCode c || c.before args0 about1) = true := by decide +kernel
theorem w_tables : (allAtoms (Jvm.Cond.code x code maxLocals ret :: tables_1)).before args0 about1 = true := by
  rw [allAtoms_all]
  show words1.all (fun c => c.before args0 about1) = true
  refine all_split ?_ w_codes
  rw [← List.take_append_drop 24 words1, List.all_append, w_t1, ← List.take_append_drop 24 (words1.drop 24), List.all_append, w_t2, ← List.take_append_drop 24 ((words1.drop 24).drop 24), List.all_append, w_t3, ← List.take_append_drop 24 (((words1.drop 24).drop 24).drop 24), List.all_append, w_t4, w_t5]
  rfl
set_option maxRecDepth 65536 in
theorem w_case : (Jvm.Cond.and given_1 narrow_1).before args0 about1 = true := by decide +kernel
theorem w_applies : (headSpec (Jvm.Cond.code x code maxLocals ret :: tables_1) room_1).applies x e0.platform about1 = true :=
  (Spec.applies_iff w_frames).mpr ⟨w_running, w_runnable, w_alone, w_named, w_hears, w_ripe, w_room, w_tables⟩
theorem atStart : AtStart classFile x code maxLocals ret World_1 tables_1 room_1 Calls_1 rest_1 Pre_1 launch0 p0 e0 about1 theMethod args0 below0 :=
  ⟨lists_1, trivial, launch0.admits_env _ _ _, launch0.least_env, fairChoices_fair.cas, fairChoices_fair.clock, w_frames, w_args, w_heap, w_applies, trivial, trivial, w_case⟩
end start1
theorem witness_1 : WitnessClaimed_1 := ⟨start1.p0, start1.e0, start1.about1, start1.theMethod, start1.args0, start1.below0, start1.atStart⟩
end Jvm.Pilot.@@N@@

import JvmDerived
import JvmDerived.Pilot.@@N@@Statement
import JvmDerived.Pilot.@@N@@Code
set_option linter.unusedVariables false
set_option linter.unusedSimpArgs false
namespace Jvm.Pilot.@@N@@
open Jvm Jvm.ClassFile Sem Op Lib Jvm.Free Jvm.Stand Jvm.LawKit Jvm.RoadKit Bundle Jvm.Pilot.@@N@@.Jvm.D
def Go (p : Program) (e : Env) (below : List Frame) (s : State) (Q : Option Value → Heap → List Loc → Prop) (C S : Nat) (V : State) : Prop :=
  ∃ (U : State) (o : Outcome), Steps p.tables e below V U ∧ U.status = .running ∧ Ended U below o ∧ ∃ v L, o = .returned v ∧ Q v U.heap L ∧ FrameEnd s o U L C S
def Ga (p : Program) (e : Env) (below : List Frame) (s : State) (Q : Option Value → Heap → List Loc → Prop) (C S : Nat) (T : State) (m : MethodId) (pc : Nat) (Ls : Array Slot) (st : List Value) : Prop :=
  Go p e below s Q C S (T.setTop (mkF m pc Ls st))
abbrev Ct (l : Launch) (Z : State) (y : MethodName) (bytes : ByteArray) (maxL : Nat) (ret : Option FieldType) (ws : List Jvm.Cond) (rm : Room) (as' : Array Value) (h0 : Heap) (Q : Option Value → Heap → List Loc → Prop) : Prop :=
  MetFree l y (head1 (Jvm.Cond.code y bytes maxL ret :: ws) rm) (fun a U => a = as' ∧ Z.Warmed39 U.vm ∧ U.heap = h0) (fun _ _ _ _ _ => True) (fun _ U o U' => ∃ v L, o = .returned v ∧ Q v U'.heap L ∧ FrameEnd U o U' L rm.cells rm.slots)
section GoKit
variable {p : Program} {l : Launch} {e : Env} {R : Room} {s : State} {m : MethodId} {args : Array Value} {below : List Frame} {meth : Method} {c : Code} {T T' : State} {locs : List Loc} {cells slots : Nat} {Q : Option Value → Heap → List Loc → Prop} {C S : Nat} {Z : State} {a0 : Array Value} {h : Heap} {pc q pc' : Nat} {Ls Ls' : Array Slot} {st st' : List Value} {own : String}
theorem Ga.stp (k : ∀ t, Steps p.tables e below (T'.setTop (mkF m pc' Ls' st')) t → Steps p.tables e below (T.setTop (mkF m pc Ls st)) t) (g : Ga p e below s Q C S T' m pc' Ls' st') : Ga p e below s Q C S T m pc Ls st := by
  obtain ⟨U, o, h, r⟩ := g
  exact ⟨U, o, k _ h, r⟩
theorem own_body {y : MethodName} {bytes : ByteArray} {maxL : Nat} {ret : Option FieldType} {ws : List Jvm.Cond} {rm : Room} {h0 : Heap} {as' : Array Value} (hpl : plainFor y = true) (hef : ∀ m, entryFrame m as' maxL = mkF m 0 Ls [])
    (body : ∀ (p : Program) (e : Env) (s : State) (m : MethodId) (below : List Frame) (meth : Method) (c : Code) (T : State), p.tables.exec = Jvm.exec → c.code = bytes → c.maxLocals = maxL → Z.Warmed39 s.vm → s.vm.findClass y.cls = some m.cls → meth.name = y.name → meth.sig.returnType = ret → meth.locks = false →
      Stand p l e rm s m as' below meth c T [] 0 0 → T.heap = h0 → Ga p e below s Q rm.cells rm.slots T m 0 Ls []) : Ct l Z y bytes maxL ret ws rm as' h0 Q := by
  refine MetFree.of_bodySF hpl hisR ?_
  intro p e s m args below meth c s₁ Bd hml0 hP hK
  obtain ⟨rfl, hZ, hh⟩ := hP
  have X0 : Stand p l e rm s m args below meth c s₁ [] 0 0 := Stand.of_body Bd
  have e0 : s₁.heap = h0 := by rw [← hh, Bd.state]; rfl
  obtain ⟨U, o, g1, g2⟩ := body p e s m below meth c s₁ Bd.exec Bd.bytes hml0 hZ (findClass_of_methodNamed Bd.named) (name_of_methodNamed Bd.named Bd.method).1 Bd.returns (BodyLoose.notSynchronized Bd) X0 e0
  exact ⟨U, o, castTop (hef m) g1, g2⟩
theorem Ga.out (X : Stand p l e R s m args below meth c T locs cells slots) {v : Option Value} (hlk : meth.locks = false) (hv : meth.sig.returnType = none → v = none) (hc : cells ≤ C) (hs : slots ≤ S) (hq : Q v T.heap locs)
    (k : ∀ fs, (∀ (f : JFrame) (acts : List Action), f.method = m → f.locked = none → f.entered = [] → (doReturn e (T.setTop f) acts v).1 = T.setFrames fs) → Steps p.tables e below (T.setTop (mkF m pc Ls st)) (T.setFrames fs)) : Ga p e below s Q C S T m pc Ls st := by
  obtain ⟨fs, hr, hrun, hended, hW, hsame⟩ := X.leave (v := v) hv hlk
  exact ⟨_, _, k fs hr, hrun, hended, _, _, rfl, hq, ⟨_, rfl⟩, hW, hsame.mono hc hs⟩
theorem g_iloadN (X : Stand p l e R s m args below meth c T locs cells slots) (hx : p.tables.exec = Jvm.exec) {k : Fin 4} {v : Int32} (hd : decode c.code pc = .ok (.iload_n k, 1)) (hp : pc + 1 = q) (hl : Ls[k.val]? = some (.val (.int v))) (g : Ga p e below s Q C S T m q Ls (.int v :: st)) : Ga p e below s Q C S T m pc Ls st := by
  subst hp
  exact Ga.stp (fun _ k => XS.iloadN X.here hx rfl hd hl k) g
theorem g_iload (X : Stand p l e R s m args below meth c T locs cells slots) (hx : p.tables.exec = Jvm.exec) {k : Nat} {v : Int32} (hd : decode c.code pc = .ok (.iload k, 2)) (hp : pc + 2 = q) (hl : Ls[k]? = some (.val (.int v))) (g : Ga p e below s Q C S T m q Ls (.int v :: st)) : Ga p e below s Q C S T m pc Ls st := by
  subst hp
  exact Ga.stp (fun _ k => XS.iload X.here hx rfl hd hl k) g
theorem g_lloadN (X : Stand p l e R s m args below meth c T locs cells slots) (hx : p.tables.exec = Jvm.exec) {k : Fin 4} {v : Int64} (hd : decode c.code pc = .ok (.lload_n k, 1)) (hp : pc + 1 = q) (hl : Ls[k.val]? = some (.val (.long v))) (g : Ga p e below s Q C S T m q Ls (.long v :: st)) : Ga p e below s Q C S T m pc Ls st := by
  subst hp
  exact Ga.stp (fun _ k => XS.lloadN X.here hx rfl hd hl k) g
theorem g_lload (X : Stand p l e R s m args below meth c T locs cells slots) (hx : p.tables.exec = Jvm.exec) {k : Nat} {v : Int64} (hd : decode c.code pc = .ok (.lload k, 2)) (hp : pc + 2 = q) (hl : Ls[k]? = some (.val (.long v))) (g : Ga p e below s Q C S T m q Ls (.long v :: st)) : Ga p e below s Q C S T m pc Ls st := by
  subst hp
  exact Ga.stp (fun _ k => XS.lload X.here hx rfl hd hl k) g
theorem g_aloadN (X : Stand p l e R s m args below meth c T locs cells slots) (hx : p.tables.exec = Jvm.exec) {k : Fin 4} {v : Value} (hd : decode c.code pc = .ok (.aload_n k, 1)) (hp : pc + 1 = q) (hl : Ls[k.val]? = some (.val v)) (hv : v.isRef = true) (g : Ga p e below s Q C S T m q Ls (v :: st)) : Ga p e below s Q C S T m pc Ls st := by
  subst hp
  exact Ga.stp (fun _ k => XS.aloadN X.here hx rfl hd hl hv k) g
theorem g_aload (X : Stand p l e R s m args below meth c T locs cells slots) (hx : p.tables.exec = Jvm.exec) {k : Nat} {v : Value} (hd : decode c.code pc = .ok (.aload k, 2)) (hp : pc + 2 = q) (hl : Ls[k]? = some (.val v)) (hv : v.isRef = true) (g : Ga p e below s Q C S T m q Ls (v :: st)) : Ga p e below s Q C S T m pc Ls st := by
  subst hp
  exact Ga.stp (fun _ k => XS.aload X.here hx rfl hd hl hv k) g
theorem g_istoreN (X : Stand p l e R s m args below meth c T locs cells slots) (hx : p.tables.exec = Jvm.exec) {k : Fin 4} {x : Int32} (hd : decode c.code pc = .ok (.istore_n k, 1)) (hp : pc + 1 = q) (hl : storeLocals Ls k.val (.int x) = some Ls') (g : Ga p e below s Q C S T m q Ls' st) : Ga p e below s Q C S T m pc Ls (.int x :: st) := by
  subst hp
  exact Ga.stp (fun _ k => XS.istoreN X.here hx rfl hd rfl hl k) g
theorem g_istore (X : Stand p l e R s m args below meth c T locs cells slots) (hx : p.tables.exec = Jvm.exec) {k : Nat} {x : Int32} (hd : decode c.code pc = .ok (.istore k, 2)) (hp : pc + 2 = q) (hl : storeLocals Ls k (.int x) = some Ls') (g : Ga p e below s Q C S T m q Ls' st) : Ga p e below s Q C S T m pc Ls (.int x :: st) := by
  subst hp
  exact Ga.stp (fun _ k => XS.istore X.here hx rfl hd rfl hl k) g
theorem g_lstoreN (X : Stand p l e R s m args below meth c T locs cells slots) (hx : p.tables.exec = Jvm.exec) {k : Fin 4} {x : Int64} (hd : decode c.code pc = .ok (.lstore_n k, 1)) (hp : pc + 1 = q) (hl : storeLocals Ls k.val (.long x) = some Ls') (g : Ga p e below s Q C S T m q Ls' st) : Ga p e below s Q C S T m pc Ls (.long x :: st) := by
  subst hp
  exact Ga.stp (fun _ k => XS.lstoreN X.here hx rfl hd rfl hl k) g
theorem g_lstore (X : Stand p l e R s m args below meth c T locs cells slots) (hx : p.tables.exec = Jvm.exec) {k : Nat} {x : Int64} (hd : decode c.code pc = .ok (.lstore k, 2)) (hp : pc + 2 = q) (hl : storeLocals Ls k (.long x) = some Ls') (g : Ga p e below s Q C S T m q Ls' st) : Ga p e below s Q C S T m pc Ls (.long x :: st) := by
  subst hp
  exact Ga.stp (fun _ k => XS.lstore X.here hx rfl hd rfl hl k) g
theorem g_astore (X : Stand p l e R s m args below meth c T locs cells slots) (hx : p.tables.exec = Jvm.exec) {k : Nat} {x : Value} (hd : decode c.code pc = .ok (.astore k, 2)) (hp : pc + 2 = q) (hv : x.isRef = true) (hl : storeLocals Ls k x = some Ls') (g : Ga p e below s Q C S T m q Ls' st) : Ga p e below s Q C S T m pc Ls (x :: st) := by
  subst hp
  exact Ga.stp (fun _ k => XS.astore X.here hx rfl hd rfl hv hl k) g
theorem g_iconst (X : Stand p l e R s m args below meth c T locs cells slots) (hx : p.tables.exec = Jvm.exec) {i : Int} {r : Int32} (hd : decode c.code pc = .ok (.iconst i, 1)) (hp : pc + 1 = q) (hr : Int32.ofInt i = r) (g : Ga p e below s Q C S T m q Ls (.int r :: st)) : Ga p e below s Q C S T m pc Ls st := by
  subst hp hr
  exact Ga.stp (fun _ k => XS.iconst X.here hx rfl hd k) g
theorem g_bipush (X : Stand p l e R s m args below meth c T locs cells slots) (hx : p.tables.exec = Jvm.exec) {i : Int} {r : Int32} (hd : decode c.code pc = .ok (.bipush i, 2)) (hp : pc + 2 = q) (hr : (Int8.ofInt i).toInt32 = r) (g : Ga p e below s Q C S T m q Ls (.int r :: st)) : Ga p e below s Q C S T m pc Ls st := by
  subst hp hr
  exact Ga.stp (fun _ k => XS.bipush X.here hx rfl hd k) g
theorem g_lconst (X : Stand p l e R s m args below meth c T locs cells slots) (hx : p.tables.exec = Jvm.exec) {k : Fin 2} {r : Int64} (hd : decode c.code pc = .ok (.lconst k, 1)) (hp : pc + 1 = q) (hr : Int64.ofNat k = r) (g : Ga p e below s Q C S T m q Ls (.long r :: st)) : Ga p e below s Q C S T m pc Ls st := by
  subst hp hr
  exact Ga.stp (fun _ k => XS.lconst X.here hx rfl hd k) g
theorem g_iadd (X : Stand p l e R s m args below meth c T locs cells slots) (hx : p.tables.exec = Jvm.exec) {x y r : Int32} (hd : decode c.code pc = .ok (.iadd, 1)) (hp : pc + 1 = q) (hr : x + y = r) (g : Ga p e below s Q C S T m q Ls (.int r :: st)) : Ga p e below s Q C S T m pc Ls (.int y :: .int x :: st) := by
  subst hp hr
  exact Ga.stp (fun _ k => XS.iadd X.here hx rfl hd rfl k) g
theorem g_isub (X : Stand p l e R s m args below meth c T locs cells slots) (hx : p.tables.exec = Jvm.exec) {x y r : Int32} (hd : decode c.code pc = .ok (.isub, 1)) (hp : pc + 1 = q) (hr : x - y = r) (g : Ga p e below s Q C S T m q Ls (.int r :: st)) : Ga p e below s Q C S T m pc Ls (.int y :: .int x :: st) := by
  subst hp hr
  exact Ga.stp (fun _ k => XS.isub X.here hx rfl hd rfl k) g
theorem g_imul (X : Stand p l e R s m args below meth c T locs cells slots) (hx : p.tables.exec = Jvm.exec) {x y r : Int32} (hd : decode c.code pc = .ok (.imul, 1)) (hp : pc + 1 = q) (hr : x * y = r) (g : Ga p e below s Q C S T m q Ls (.int r :: st)) : Ga p e below s Q C S T m pc Ls (.int y :: .int x :: st) := by
  subst hp hr
  exact Ga.stp (fun _ k => XS.imul X.here hx rfl hd rfl k) g
theorem g_iand (X : Stand p l e R s m args below meth c T locs cells slots) (hx : p.tables.exec = Jvm.exec) {x y r : Int32} (hd : decode c.code pc = .ok (.iand, 1)) (hp : pc + 1 = q) (hr : x &&& y = r) (g : Ga p e below s Q C S T m q Ls (.int r :: st)) : Ga p e below s Q C S T m pc Ls (.int y :: .int x :: st) := by
  subst hp hr
  exact Ga.stp (fun _ k => XS.iand X.here hx rfl hd rfl k) g
theorem g_iushr (X : Stand p l e R s m args below meth c T locs cells slots) (hx : p.tables.exec = Jvm.exec) {x y r : Int32} (hd : decode c.code pc = .ok (.iushr, 1)) (hp : pc + 1 = q) (hr : (x.toUInt32 >>> (y &&& 31).toUInt32).toInt32 = r) (g : Ga p e below s Q C S T m q Ls (.int r :: st)) : Ga p e below s Q C S T m pc Ls (.int y :: .int x :: st) := by
  subst hp hr
  exact Ga.stp (fun _ k => XS.iushr X.here hx rfl hd rfl k) g
theorem g_ladd (X : Stand p l e R s m args below meth c T locs cells slots) (hx : p.tables.exec = Jvm.exec) {x y r : Int64} (hd : decode c.code pc = .ok (.ladd, 1)) (hp : pc + 1 = q) (hr : x + y = r) (g : Ga p e below s Q C S T m q Ls (.long r :: st)) : Ga p e below s Q C S T m pc Ls (.long y :: .long x :: st) := by
  subst hp hr
  exact Ga.stp (fun _ k => XS.ladd X.here hx rfl hd rfl k) g
theorem g_lmul (X : Stand p l e R s m args below meth c T locs cells slots) (hx : p.tables.exec = Jvm.exec) {x y r : Int64} (hd : decode c.code pc = .ok (.lmul, 1)) (hp : pc + 1 = q) (hr : x * y = r) (g : Ga p e below s Q C S T m q Ls (.long r :: st)) : Ga p e below s Q C S T m pc Ls (.long y :: .long x :: st) := by
  subst hp hr
  exact Ga.stp (fun _ k => XS.lmul X.here hx rfl hd rfl k) g
theorem g_irem (X : Stand p l e R s m args below meth c T locs cells slots) (hx : p.tables.exec = Jvm.exec) {x y r : Int32} (hd : decode c.code pc = .ok (.irem, 1)) (hp : pc + 1 = q) (hy : y ≠ 0) (hr : x % y = r) (g : Ga p e below s Q C S T m q Ls (.int r :: st)) : Ga p e below s Q C S T m pc Ls (.int y :: .int x :: st) := by
  subst hp hr
  exact Ga.stp (fun _ k => iremM X hx (g := mkF m pc Ls (.int y :: .int x :: st)) rfl hd rfl hy k) g
theorem g_i2b (X : Stand p l e R s m args below meth c T locs cells slots) (hx : p.tables.exec = Jvm.exec) {x : Int32} {r : Int32} (hd : decode c.code pc = .ok (.i2b, 1)) (hp : pc + 1 = q) (hr : x.toInt8.toInt32 = r) (g : Ga p e below s Q C S T m q Ls (.int r :: st)) : Ga p e below s Q C S T m pc Ls (.int x :: st) := by
  subst hp hr
  exact Ga.stp (fun _ k => XS.i2b X.here hx rfl hd rfl k) g
theorem g_i2l (X : Stand p l e R s m args below meth c T locs cells slots) (hx : p.tables.exec = Jvm.exec) {x : Int32} {r : Int64} (hd : decode c.code pc = .ok (.i2l, 1)) (hp : pc + 1 = q) (hr : x.toInt64 = r) (g : Ga p e below s Q C S T m q Ls (.long r :: st)) : Ga p e below s Q C S T m pc Ls (.int x :: st) := by
  subst hp hr
  exact Ga.stp (fun _ k => XS.i2l X.here hx rfl hd rfl k) g
theorem g_lcmp (X : Stand p l e R s m args below meth c T locs cells slots) (hx : p.tables.exec = Jvm.exec) {x y : Int64} (hd : decode c.code pc = .ok (.lcmp, 1)) (hp : pc + 1 = q)  (g : Ga p e below s Q C S T m q Ls (.int (XT.cmpL x y) :: st)) : Ga p e below s Q C S T m pc Ls (.long y :: .long x :: st) := by
  subst hp
  exact Ga.stp (fun _ k => XT.lcmp X.here hx rfl hd rfl k) g
theorem g_dup (X : Stand p l e R s m args below meth c T locs cells slots) (hx : p.tables.exec = Jvm.exec) {x : Value} (hd : decode c.code pc = .ok (.dup, 1)) (hp : pc + 1 = q) (hc : x.category = 1) (g : Ga p e below s Q C S T m q Ls (x :: x :: st)) : Ga p e below s Q C S T m pc Ls (x :: st) := by
  subst hp
  exact Ga.stp (fun _ k => XS.dup X.here hx rfl hd rfl hc k) g
theorem g_iinc (X : Stand p l e R s m args below meth c T locs cells slots) (hx : p.tables.exec = Jvm.exec) {k : Nat} {cst : Int} {x r : Int32} (hd : decode c.code pc = .ok (.iinc k cst, 3)) (hp : pc + 3 = q) (hl : Ls[k]? = some (.val (.int x))) (hr : x + Int32.ofInt cst = r) (hl' : storeLocals Ls k (.int r) = some Ls') (g : Ga p e below s Q C S T m q Ls' st) : Ga p e below s Q C S T m pc Ls st := by
  subst hp hr
  exact Ga.stp (fun _ k => XS.iinc X.here hx rfl hd hl hl' k) g
theorem g_goto (X : Stand p l e R s m args below meth c T locs cells slots) (hx : p.tables.exec = Jvm.exec) {o : Int} (hd : decode c.code pc = .ok (.goto o, 3)) (ho : 0 ≤ (pc : Int) + o) (hp : ((pc : Int) + o).toNat = q) (g : Ga p e below s Q C S T m q Ls st) : Ga p e below s Q C S T m pc Ls st :=
  Ga.stp (fun _ k => XS.goto X.here hx rfl rfl hd ho hp k) g
theorem g_ifY (X : Stand p l e R s m args below meth c T locs cells slots) (hx : p.tables.exec = Jvm.exec) {cd : ClassFile.Cond} {x : Int32} {o : Int} (hd : decode c.code pc = .ok (.ifCond cd o, 3)) (hc : ifCond.holds cd x = true) (ho : 0 ≤ (pc : Int) + o) (hp : ((pc : Int) + o).toNat = q) (g : Ga p e below s Q C S T m q Ls st) : Ga p e below s Q C S T m pc Ls (.int x :: st) :=
  Ga.stp (fun _ k => XS.ifYes X.here hx rfl rfl hd rfl hc ho hp k) g
theorem g_ifN (X : Stand p l e R s m args below meth c T locs cells slots) (hx : p.tables.exec = Jvm.exec) {cd : ClassFile.Cond} {x : Int32} {o : Int} (hd : decode c.code pc = .ok (.ifCond cd o, 3)) (hp : pc + 3 = q) (hc : ifCond.holds cd x = false) (g : Ga p e below s Q C S T m q Ls st) : Ga p e below s Q C S T m pc Ls (.int x :: st) := by
  subst hp
  exact Ga.stp (fun _ k => XS.ifNo X.here hx rfl hd rfl hc k) g
theorem g_icmpY (X : Stand p l e R s m args below meth c T locs cells slots) (hx : p.tables.exec = Jvm.exec) {cd : ClassFile.Cond} {x y : Int32} {o : Int} (hd : decode c.code pc = .ok (.if_icmp cd o, 3)) (hc : if_icmp.holds cd x y = true) (ho : 0 ≤ (pc : Int) + o) (hp : ((pc : Int) + o).toNat = q) (g : Ga p e below s Q C S T m q Ls st) : Ga p e below s Q C S T m pc Ls (.int y :: .int x :: st) :=
  Ga.stp (fun _ k => XS.icmpYes X.here hx rfl rfl hd rfl hc ho hp k) g
theorem g_icmpN (X : Stand p l e R s m args below meth c T locs cells slots) (hx : p.tables.exec = Jvm.exec) {cd : ClassFile.Cond} {x y : Int32} {o : Int} (hd : decode c.code pc = .ok (.if_icmp cd o, 3)) (hp : pc + 3 = q) (hc : if_icmp.holds cd x y = false) (g : Ga p e below s Q C S T m q Ls st) : Ga p e below s Q C S T m pc Ls (.int y :: .int x :: st) := by
  subst hp
  exact Ga.stp (fun _ k => XS.icmpNo X.here hx rfl hd rfl hc k) g
theorem g_retI (X : Stand p l e R s m args below meth c T locs cells slots) (hx : p.tables.exec = Jvm.exec) {z : Int32} (hret : meth.sig.returnType = some .int) (hlk : meth.locks = false) (hd : decode c.code pc = .ok (.ireturn, 1)) (hc : cells ≤ C) (hs : slots ≤ S) (hq : Q (some (.int z)) T.heap locs) : Ga p e below s Q C S T m pc Ls (.int z :: st) :=
  Ga.out X hlk (fun h => by rw [hret] at h; cases h) hc hs hq fun fs hr => retOut X hx hret rfl (Or.inl ⟨rfl, Or.inl rfl, z, rfl⟩) hd hr
theorem g_retN (X : Stand p l e R s m args below meth c T locs cells slots) (hx : p.tables.exec = Jvm.exec) {z r : Int32} {t : FieldType} (hret : meth.sig.returnType = some t) (ht : t = .boolean ∨ t = .byte ∨ t = .char ∨ t = .short) (hlk : meth.locks = false) (hd : decode c.code pc = .ok (.ireturn, 1)) (hr : nar t z = r) (hc : cells ≤ C) (hs : slots ≤ S) (hq : Q (some (.int r)) T.heap locs) : Ga p e below s Q C S T m pc Ls (.int z :: st) := by
  subst hr
  exact Ga.out X hlk (fun h => by rw [hret] at h; cases h) hc hs hq fun fs hr => retN X hx hret ht hd hr
theorem g_retJ (X : Stand p l e R s m args below meth c T locs cells slots) (hx : p.tables.exec = Jvm.exec) {z : Int64} (hret : meth.sig.returnType = some .long) (hlk : meth.locks = false) (hd : decode c.code pc = .ok (.lreturn, 1)) (hc : cells ≤ C) (hs : slots ≤ S) (hq : Q (some (.long z)) T.heap locs) : Ga p e below s Q C S T m pc Ls (.long z :: st) :=
  Ga.out X hlk (fun h => by rw [hret] at h; cases h) hc hs hq fun fs hr => retOut X hx hret rfl (Or.inr (Or.inl ⟨rfl, rfl, z, rfl⟩)) hd hr
theorem g_ldc2 (X : Stand p l e R s m args below meth c T locs cells slots) (hx : p.tables.exec = Jvm.exec) (hZ : Z.Warmed39 s.vm) (hown : s.vm.findClass own = some m.cls) {index : Nat} {v : Int64} (w : (Cond.constantLong own index v).before a0 Z = true) (hd : decode c.code pc = .ok (.ldc2_w index, 3)) (hp : pc + 3 = q) (g : Ga p e below s Q C S T m q Ls (.long v :: st)) : Ga p e below s Q C S T m pc Ls st := by
  subst hp
  exact Ga.stp (fun t k => X.ldc2Long hx hown (mvT hZ w) (g := mkF m pc Ls st) rfl hd t k) g
theorem g_static (X : Stand p l e R s m args below meth c T locs cells slots) (hx : p.tables.exec = Jvm.exec) (hZ : Z.Warmed39 s.vm) (hown : s.vm.findClass own = some m.cls) {index : Nat} {y : MethodName} {ret : Option FieldType} {bytes : ByteArray} {maxL : Nat} {rm : Room} {as' : Array Value} {Q' : Option Value → Heap → List Loc → Prop} (w1 : (Cond.methodLink own index y).before a0 Z = true) (w2 : (Cond.static y).before a0 Z = true) (w3 : (Cond.initialized y.cls).before a0 Z = true) (w4 : (Cond.code y bytes maxL ret).before a0 Z = true) (hy : y.cls ≠ "java/lang/invoke/MethodHandle" ∧ y.cls ≠ "java/lang/invoke/VarHandle")
    (hM : Ct l Z y bytes maxL ret [] rm as' h Q') (hsz : Ls.size = c.maxLocals) (eT : T.heap = h) (argsL : List Value) {rest : List Value} (has : as' = argsL.toArray) (hst : st = argsL.reverse ++ rest) {W : Nat} (hW : (rest.map fun v => v.category).sum ≤ W) (hf : rm.frames + 1 ≤ R.frames) (hl : W + (maxL + 11) + rm.locals ≤ R.locals) (hcl : cells + rm.cells ≤ R.cells) (hsl : slots + rm.slots ≤ R.slots) (hlen : ∀ sig, parseMethodDescriptor y.desc = some sig → argsL.length = sig.parameters.length) (hd : decode c.code pc = .ok (.invokestatic index, 3)) (hp : pc + 3 = q) (k : ∀ v T' L, Stand p l e R s m args below meth c T' (locs ++ L) (cells + rm.cells) (slots + rm.slots) → Q' v T'.heap L → Ga p e below s Q C S T' m q Ls (v.toList ++ rest)) : Ga p e below s Q C S T m pc Ls st := by
  subst hp has hst
  obtain ⟨_, _, ⟨T', L', k', n'⟩, -, X', ⟨Lc, hQ', l1, y1, z1⟩, sx⟩ := Jvm.LawKit.callS X hx (y := y) hown (mvT hZ w1) (mvT hZ w2) (mvT hZ w3) (mvT hZ w4) hy (backOf (W := W) hM hZ w4 w3 hf hl) (g := mkF m pc Ls (argsL.reverse ++ rest)) rfl hsz (argsL := argsL) (rest := rest) hlen rfl (by show 2 * 0 + _ ≤ _; omega) hd (fun _ _ => ⟨rfl, eT, hcl, hsl⟩)
  dsimp only [Pt.U, Pt.locs, Pt.cells, Pt.slots] at X' l1 y1 z1 sx hQ'
  subst l1 y1 z1
  exact Ga.stp sx (k _ T' Lc X' hQ')
variable {ka : ClassId} {ty : FieldType} {z j : Int32} {vs : List Value} {dv : Value} {a : Addr}
theorem g_baload (X : Stand p l e R s m args below meth c T locs cells slots) (hx : p.tables.exec = Jvm.exec) (hZ : Z.Warmed39 s.vm) (eT : T.heap = h) (A : Arv Z h a ka .byte z vs dv) {v : Value} (hin : ¬ j < 0 ∧ j < z) (hv : vs.getD j.toNatClampNeg dv = v) (hd : decode c.code pc = .ok (.baload, 1)) (hp : pc + 1 = q) (g : Ga p e below s Q C S T m q Ls (v :: st)) : Ga p e below s Q C S T m pc Ls (.int j :: .ref a :: st) := by
  subst hp
  obtain ⟨cl, Ar, -, Sz, N, Hs, -⟩ := A
  exact Ga.stp (fun t k => X.baloadBytes hx (j := j) (v := v) (by rw [eT]; exact Ar.1) (State.isArrayOf_alike hZ.alike Ar.2.1) Ar.2.2 (inb_of Sz hin) (Hs.at (inb_of Sz hin) hv) (g := mkF m pc Ls (.int j :: .ref a :: st)) rfl rfl hd t k) g
theorem g_bastore (X : Stand p l e R s m args below meth c T locs cells slots) (hx : p.tables.exec = Jvm.exec) (hZ : Z.Warmed39 s.vm) (eT : T.heap = h) (A : Arv Z h a ka .byte z vs dv) {x : Int32} (hin : ¬ j < 0 ∧ j < z) (hlen : j.toNatClampNeg < vs.length) (hd : decode c.code pc = .ok (.bastore, 1)) (hp : pc + 1 = q)
    (k : ∀ T' h', Stand p l e R s m args below meth c T' (locs ++ [⟨a, j.toNatClampNeg⟩]) cells slots → T'.heap = h' → Wr h h' a j.toNatClampNeg (.int (nar .byte x)) → Arv Z h' a ka .byte z (vs.set j.toNatClampNeg (.int (nar .byte x))) dv → Ga p e below s Q C S T' m q Ls st) : Ga p e below s Q C S T m pc Ls (.int x :: .int j :: .ref a :: st) := by
  subst hp
  obtain ⟨cl, Ar, q1, Sz, N, Hs, Gs⟩ := A
  obtain ⟨T', h', X', e', W', sx⟩ := stB X hx hZ eT Ar (j := j) (inb_of Sz hin) (g := mkF m pc Ls (.int x :: .int j :: .ref a :: st)) rfl rfl hd
  exact Ga.stp sx (k T' h' X' e' W' (Arv.set Ar q1 Sz N Hs Gs (fits_nar_byte x) W' _ rfl hlen))
theorem g_newarray (X : Stand p l e R s m args below meth c T locs cells slots) (hx : p.tables.exec = Jvm.exec) (hZ : Z.Warmed39 s.vm) {aty : ArrayType} (w : (Cond.arrayClass (newarray.typeOf aty)).before a0 Z = true) (eT : T.heap = h) {n : Int32} (hn : ¬ n < 0) (cap : Nat) (hcap : n.toNatClampNeg ≤ cap) (hb : cap * 8 ≤ 536870912) (hc : cells + 1 ≤ R.cells) (hl : slots + cap ≤ R.slots) {ad : String} (had : "[" ++ (newarray.typeOf aty).toString = ad) (hd : decode c.code pc = .ok (.newarray aty, 2)) (hp : pc + 2 = q)
    (k : ∀ T' h' b kA, Stand p l e R s m args below meth c T' locs (cells + 1) (slots + cap) → T'.heap = h' → b = h.size → Ext h h' → Exa Z h' b ad → Arv Z h' b kA (newarray.typeOf aty) n (List.replicate cap (defaultValue (newarray.typeOf aty))) (defaultValue (newarray.typeOf aty)) → Ga p e below s Q C S T' m q Ls (.ref b :: st)) : Ga p e below s Q C S T m pc Ls (.int n :: st) := by
  subst hp
  obtain ⟨T', h', cA, X', e', E', A', Ea, sx⟩ := newPE X hx hZ w eT (g := mkF m pc Ls (.int n :: st)) rfl hd rfl hn hcap hb hc hl had
  exact Ga.stp sx (k T' h' _ cA X' e' rfl E' Ea ((Arv.new A' hn).pad (by simpa using pad_rep [] (defaultValue (newarray.typeOf aty)) cap)))
end GoKit

theorem own_irrI (x : Int32) : ¬ x < x := Int32.lt_irrefl
theorem own_irrJ (x : Int64) : ¬ x < x := Int64.lt_irrefl
theorem own_narc (x : Int32) : nar .char (x &&& (255 : Int32)) = (x &&& (255 : Int32)) := i2c_mask x
theorem own_nar (x : Int32) : nar .byte x = x.toInt8.toInt32 := rfl
theorem own_bb (x : Int32) : x.toInt8.toInt32.toInt8.toInt32 = x.toInt8.toInt32 := by simp
theorem own_nb {h : Heap} {b b' y : Addr} (hb : b' = b ∨ h.size ≤ b') (lt : y < h.size) (ne : y ≠ b) : y ≠ b' := hb.elim (fun q => q ▸ ne) (fun q => Nat.ne_of_lt (Nat.lt_of_lt_of_le lt q))
theorem own_ng {h : Heap} {b b' : Addr} {n0 : Nat} (hb : b' = b ∨ h.size ≤ b') (g : n0 ≤ b) (Z : n0 ≤ h.size) : n0 ≤ b' := hb.elim (fun q => q ▸ g) (fun q => Nat.le_trans Z q)
theorem own_insK {Z : State} {h h' : Heap} {a : Addr} {C : String} {ws : List Addr} (F : Ins Z h a C true) (K : Keep h h' ws) : Ins Z h' a C true := by
  obtain ⟨cell, cT, h1, h2, h3⟩ := F
  obtain ⟨c', q1, q2, q3, -⟩ := K.2.2 _ _ h1
  exact ⟨c', cT, q1, h2, by rw [q2, q3]; exact h3⟩
theorem d_m_3_0 : decode method_3_code 0 = .ok (.iload_n 0, 1) := by decide +kernel
theorem d_m_3_1 : decode method_3_code 1 = .ok (.iload_n 1, 1) := by decide +kernel
theorem d_m_3_2 : decode method_3_code 2 = .ok (.iushr, 1) := by decide +kernel
theorem d_m_3_3 : decode method_3_code 3 = .ok (.iconst 1, 1) := by decide +kernel
theorem d_m_3_4 : decode method_3_code 4 = .ok (.iand, 1) := by decide +kernel
theorem d_m_3_5 : decode method_3_code 5 = .ok (.ifCond .eq 16, 3) := by decide +kernel
theorem d_m_3_21 : decode method_3_code 21 = .ok (.iload_n 2, 1) := by decide +kernel
theorem d_m_3_22 : decode method_3_code 22 = .ok (.bipush 8, 2) := by decide +kernel
theorem d_m_3_24 : decode method_3_code 24 = .ok (.iload_n 1, 1) := by decide +kernel
theorem d_m_3_25 : decode method_3_code 25 = .ok (.imul, 1) := by decide +kernel
theorem d_m_3_26 : decode method_3_code 26 = .ok (.iushr, 1) := by decide +kernel
theorem d_m_3_27 : decode method_3_code 27 = .ok (.i2b, 1) := by decide +kernel
theorem d_m_3_28 : decode method_3_code 28 = .ok (.ireturn, 1) := by decide +kernel
theorem d_m_3_8 : decode method_3_code 8 = .ok (.bipush 48, 2) := by decide +kernel
theorem d_m_3_10 : decode method_3_code 10 = .ok (.iload_n 3, 1) := by decide +kernel
theorem d_m_3_11 : decode method_3_code 11 = .ok (.iconst 4, 1) := by decide +kernel
theorem d_m_3_12 : decode method_3_code 12 = .ok (.iload_n 1, 1) := by decide +kernel
theorem d_m_3_13 : decode method_3_code 13 = .ok (.imul, 1) := by decide +kernel
theorem d_m_3_14 : decode method_3_code 14 = .ok (.iushr, 1) := by decide +kernel
theorem d_m_3_15 : decode method_3_code 15 = .ok (.bipush 15, 2) := by decide +kernel
theorem d_m_3_17 : decode method_3_code 17 = .ok (.iand, 1) := by decide +kernel
theorem d_m_3_18 : decode method_3_code 18 = .ok (.iadd, 1) := by decide +kernel
theorem d_m_3_19 : decode method_3_code 19 = .ok (.i2b, 1) := by decide +kernel
theorem d_m_3_20 : decode method_3_code 20 = .ok (.ireturn, 1) := by decide +kernel
theorem d_m_4_0 : decode method_4_code 0 = .ok (.lload_n 0, 1) := by decide +kernel
theorem d_m_4_1 : decode method_4_code 1 = .ok (.lconst 0, 1) := by decide +kernel
theorem d_m_4_2 : decode method_4_code 2 = .ok (.lcmp, 1) := by decide +kernel
theorem d_m_4_3 : decode method_4_code 3 = .ok (.ifCond .ge 5, 3) := by decide +kernel
theorem d_m_4_6 : decode method_4_code 6 = .ok (.lload_n 0, 1) := by decide +kernel
theorem d_m_4_7 : decode method_4_code 7 = .ok (.lreturn, 1) := by decide +kernel
theorem d_m_4_8 : decode method_4_code 8 = .ok (.iload_n 3, 1) := by decide +kernel
theorem d_m_4_9 : decode method_4_code 9 = .ok (.iload 4, 2) := by decide +kernel
theorem d_m_4_11 : decode method_4_code 11 = .ok (.if_icmp .lt 9, 3) := by decide +kernel
theorem d_m_4_20 : decode method_4_code 20 = .ok (.lload_n 0, 1) := by decide +kernel
theorem d_m_4_21 : decode method_4_code 21 = .ok (.lreturn, 1) := by decide +kernel
theorem d_m_4_14 : decode method_4_code 14 = .ok (.iload_n 3, 1) := by decide +kernel
theorem d_m_4_15 : decode method_4_code 15 = .ok (.iload 5, 2) := by decide +kernel
theorem d_m_4_17 : decode method_4_code 17 = .ok (.if_icmp .lt 5, 3) := by decide +kernel
theorem d_m_4_22 : decode method_4_code 22 = .ok (.aload_n 2, 1) := by decide +kernel
theorem d_m_4_23 : decode method_4_code 23 = .ok (.iload_n 3, 1) := by decide +kernel
theorem d_m_4_24 : decode method_4_code 24 = .ok (.baload, 1) := by decide +kernel
theorem d_m_4_25 : decode method_4_code 25 = .ok (.bipush 48, 2) := by decide +kernel
theorem d_m_4_27 : decode method_4_code 27 = .ok (.isub, 1) := by decide +kernel
theorem d_m_4_28 : decode method_4_code 28 = .ok (.istore 6, 2) := by decide +kernel
theorem d_m_4_30 : decode method_4_code 30 = .ok (.iload 6, 2) := by decide +kernel
theorem d_m_4_32 : decode method_4_code 32 = .ok (.ifCond .lt 10, 3) := by decide +kernel
theorem d_m_4_42 : decode method_4_code 42 = .ok (.ldc2_w 22, 3) := by decide +kernel
theorem d_m_4_45 : decode method_4_code 45 = .ok (.lreturn, 1) := by decide +kernel
theorem d_m_4_35 : decode method_4_code 35 = .ok (.iload 6, 2) := by decide +kernel
theorem d_m_4_37 : decode method_4_code 37 = .ok (.bipush 9, 2) := by decide +kernel
theorem d_m_4_39 : decode method_4_code 39 = .ok (.if_icmp .le 7, 3) := by decide +kernel
theorem d_m_4_46 : decode method_4_code 46 = .ok (.lload_n 0, 1) := by decide +kernel
theorem d_m_4_47 : decode method_4_code 47 = .ok (.ldc2_w 36, 3) := by decide +kernel
theorem d_m_4_50 : decode method_4_code 50 = .ok (.lmul, 1) := by decide +kernel
theorem d_m_4_51 : decode method_4_code 51 = .ok (.iload 6, 2) := by decide +kernel
theorem d_m_4_53 : decode method_4_code 53 = .ok (.i2l, 1) := by decide +kernel
theorem d_m_4_54 : decode method_4_code 54 = .ok (.ladd, 1) := by decide +kernel
theorem d_m_4_55 : decode method_4_code 55 = .ok (.lreturn, 1) := by decide +kernel
theorem d_prog_69_m_3_0 : decode prog_69_method_3_code 0 = .ok (.iload_n 1, 1) := by decide +kernel
theorem d_prog_69_m_3_1 : decode prog_69_method_3_code 1 = .ok (.iload_n 2, 1) := by decide +kernel
theorem d_prog_69_m_3_2 : decode prog_69_method_3_code 2 = .ok (.if_icmp .ne 7, 3) := by decide +kernel
theorem d_prog_69_m_3_5 : decode prog_69_method_3_code 5 = .ok (.ldc2_w 35, 3) := by decide +kernel
theorem d_prog_69_m_3_8 : decode prog_69_method_3_code 8 = .ok (.lreturn, 1) := by decide +kernel
theorem d_prog_69_m_3_9 : decode prog_69_method_3_code 9 = .ok (.lconst 0, 1) := by decide +kernel
theorem d_prog_69_m_3_10 : decode prog_69_method_3_code 10 = .ok (.lstore_n 3, 1) := by decide +kernel
theorem d_prog_69_m_3_11 : decode prog_69_method_3_code 11 = .ok (.iload_n 1, 1) := by decide +kernel
theorem d_prog_69_m_3_12 : decode prog_69_method_3_code 12 = .ok (.istore 5, 2) := by decide +kernel
theorem d_prog_69_m_3_14 : decode prog_69_method_3_code 14 = .ok (.iload 5, 2) := by decide +kernel
theorem d_prog_69_m_3_16 : decode prog_69_method_3_code 16 = .ok (.iload_n 2, 1) := by decide +kernel
theorem d_prog_69_m_3_17 : decode prog_69_method_3_code 17 = .ok (.if_icmp .ge 82, 3) := by decide +kernel
theorem d_prog_69_m_3_99 : decode prog_69_method_3_code 99 = .ok (.lload_n 3, 1) := by decide +kernel
theorem d_prog_69_m_3_100 : decode prog_69_method_3_code 100 = .ok (.lreturn, 1) := by decide +kernel
theorem d_prog_69_m_3_20 : decode prog_69_method_3_code 20 = .ok (.aload_n 0, 1) := by decide +kernel
theorem d_prog_69_m_3_21 : decode prog_69_method_3_code 21 = .ok (.iload 5, 2) := by decide +kernel
theorem d_prog_69_m_3_23 : decode prog_69_method_3_code 23 = .ok (.baload, 1) := by decide +kernel
theorem d_prog_69_m_3_24 : decode prog_69_method_3_code 24 = .ok (.bipush 48, 2) := by decide +kernel
theorem d_prog_69_m_3_26 : decode prog_69_method_3_code 26 = .ok (.isub, 1) := by decide +kernel
theorem d_prog_69_m_3_27 : decode prog_69_method_3_code 27 = .ok (.istore 6, 2) := by decide +kernel
theorem d_prog_69_m_3_29 : decode prog_69_method_3_code 29 = .ok (.lload_n 3, 1) := by decide +kernel
theorem d_prog_69_m_3_30 : decode prog_69_method_3_code 30 = .ok (.ldc2_w 39, 3) := by decide +kernel
theorem d_prog_69_m_3_33 : decode prog_69_method_3_code 33 = .ok (.lcmp, 1) := by decide +kernel
theorem d_prog_69_m_3_34 : decode prog_69_method_3_code 34 = .ok (.ifCond .lt 21, 3) := by decide +kernel
theorem d_prog_69_m_3_55 : decode prog_69_method_3_code 55 = .ok (.iconst 1, 1) := by decide +kernel
theorem d_prog_69_m_3_56 : decode prog_69_method_3_code 56 = .ok (.goto 4, 3) := by decide +kernel
theorem d_prog_69_m_3_60 : decode prog_69_method_3_code 60 = .ok (.istore 7, 2) := by decide +kernel
theorem d_prog_69_m_3_62 : decode prog_69_method_3_code 62 = .ok (.iload 6, 2) := by decide +kernel
theorem d_prog_69_m_3_64 : decode prog_69_method_3_code 64 = .ok (.ifCond .lt 15, 3) := by decide +kernel
theorem d_prog_69_m_3_79 : decode prog_69_method_3_code 79 = .ok (.ldc2_w 35, 3) := by decide +kernel
theorem d_prog_69_m_3_82 : decode prog_69_method_3_code 82 = .ok (.lreturn, 1) := by decide +kernel
theorem d_prog_69_m_3_67 : decode prog_69_method_3_code 67 = .ok (.iload 6, 2) := by decide +kernel
theorem d_prog_69_m_3_69 : decode prog_69_method_3_code 69 = .ok (.bipush 9, 2) := by decide +kernel
theorem d_prog_69_m_3_71 : decode prog_69_method_3_code 71 = .ok (.if_icmp .gt 8, 3) := by decide +kernel
theorem d_prog_69_m_3_74 : decode prog_69_method_3_code 74 = .ok (.iload 7, 2) := by decide +kernel
theorem d_prog_69_m_3_76 : decode prog_69_method_3_code 76 = .ok (.ifCond .ne 7, 3) := by decide +kernel
theorem d_prog_69_m_3_83 : decode prog_69_method_3_code 83 = .ok (.lload_n 3, 1) := by decide +kernel
theorem d_prog_69_m_3_84 : decode prog_69_method_3_code 84 = .ok (.ldc2_w 43, 3) := by decide +kernel
theorem d_prog_69_m_3_87 : decode prog_69_method_3_code 87 = .ok (.lmul, 1) := by decide +kernel
theorem d_prog_69_m_3_88 : decode prog_69_method_3_code 88 = .ok (.iload 6, 2) := by decide +kernel
theorem d_prog_69_m_3_90 : decode prog_69_method_3_code 90 = .ok (.i2l, 1) := by decide +kernel
theorem d_prog_69_m_3_91 : decode prog_69_method_3_code 91 = .ok (.ladd, 1) := by decide +kernel
theorem d_prog_69_m_3_92 : decode prog_69_method_3_code 92 = .ok (.lstore_n 3, 1) := by decide +kernel
theorem d_prog_69_m_3_93 : decode prog_69_method_3_code 93 = .ok (.iinc 5 1, 3) := by decide +kernel
theorem d_prog_69_m_3_96 : decode prog_69_method_3_code 96 = .ok (.goto (-82), 3) := by decide +kernel
theorem d_prog_69_m_3_37 : decode prog_69_method_3_code 37 = .ok (.lload_n 3, 1) := by decide +kernel
theorem d_prog_69_m_3_38 : decode prog_69_method_3_code 38 = .ok (.ldc2_w 39, 3) := by decide +kernel
theorem d_prog_69_m_3_41 : decode prog_69_method_3_code 41 = .ok (.lcmp, 1) := by decide +kernel
theorem d_prog_69_m_3_42 : decode prog_69_method_3_code 42 = .ok (.ifCond .ne 17, 3) := by decide +kernel
theorem d_prog_69_m_3_45 : decode prog_69_method_3_code 45 = .ok (.iload 6, 2) := by decide +kernel
theorem d_prog_69_m_3_47 : decode prog_69_method_3_code 47 = .ok (.i2l, 1) := by decide +kernel
theorem d_prog_69_m_3_48 : decode prog_69_method_3_code 48 = .ok (.ldc2_w 41, 3) := by decide +kernel
theorem d_prog_69_m_3_51 : decode prog_69_method_3_code 51 = .ok (.lcmp, 1) := by decide +kernel
theorem d_prog_69_m_3_52 : decode prog_69_method_3_code 52 = .ok (.ifCond .gt 7, 3) := by decide +kernel
theorem d_prog_69_m_3_59 : decode prog_69_method_3_code 59 = .ok (.iconst 0, 1) := by decide +kernel
theorem d_jdk_29_m_69_0 : decode jdk_29_method_69_code 0 = .ok (.iload_n 0, 1) := by decide +kernel
theorem d_jdk_29_m_69_1 : decode jdk_29_method_69_code 1 = .ok (.iload_n 1, 1) := by decide +kernel
theorem d_jdk_29_m_69_2 : decode jdk_29_method_69_code 2 = .ok (.if_icmp .gt 7, 3) := by decide +kernel
theorem d_jdk_29_m_69_9 : decode jdk_29_method_69_code 9 = .ok (.iload_n 1, 1) := by decide +kernel
theorem d_jdk_29_m_69_10 : decode jdk_29_method_69_code 10 = .ok (.ireturn, 1) := by decide +kernel
theorem d_jdk_29_m_69_5 : decode jdk_29_method_69_code 5 = .ok (.iload_n 0, 1) := by decide +kernel
theorem d_jdk_29_m_69_6 : decode jdk_29_method_69_code 6 = .ok (.goto 4, 3) := by decide +kernel
theorem d_jdk_29_m_65_0 : decode jdk_29_method_65_code 0 = .ok (.iload_n 0, 1) := by decide +kernel
theorem d_jdk_29_m_65_1 : decode jdk_29_method_65_code 1 = .ok (.iload_n 1, 1) := by decide +kernel
theorem d_jdk_29_m_65_2 : decode jdk_29_method_65_code 2 = .ok (.if_icmp .lt 7, 3) := by decide +kernel
theorem d_jdk_29_m_65_9 : decode jdk_29_method_65_code 9 = .ok (.iload_n 1, 1) := by decide +kernel
theorem d_jdk_29_m_65_10 : decode jdk_29_method_65_code 10 = .ok (.ireturn, 1) := by decide +kernel
theorem d_jdk_29_m_65_5 : decode jdk_29_method_65_code 5 = .ok (.iload_n 0, 1) := by decide +kernel
theorem d_jdk_29_m_65_6 : decode jdk_29_method_65_code 6 = .ok (.goto 4, 3) := by decide +kernel
theorem pd_0 : parseMethodDescriptor "(IIII)B" = some ⟨[.int, .int, .int, .int], some .byte⟩ := by decide +kernel
theorem pd_1 : parseMethodDescriptor "(II)I" = some ⟨[.int, .int], some .int⟩ := by decide +kernel
theorem pd_2 : parseMethodDescriptor "(J[BIII)J" = some ⟨[.long, (.array .byte), .int, .int, .int], some .long⟩ := by decide +kernel
theorem pd_3 : parseMethodDescriptor "([BII)J" = some ⟨[(.array .byte), .int, .int], some .long⟩ := by decide +kernel
theorem pn_0 : plainName "com/example/ely/ely/probe/UnsignedDecimalParsePinLaw" = true := by first | (simp [plainName, overriddenIn]; done) | decide +kernel
theorem pn_1 : plainName "com/example/ely/ely/probe/UnsignedDecimal" = true := by first | (simp [plainName, overriddenIn]; done) | decide +kernel
theorem own_lt32 {x y : Int32} : x < y ↔ x.toInt < y.toInt := Int32.lt_iff_toInt_lt
theorem own_eq32 {x y : Int32} : x = y ↔ x.toInt = y.toInt := Int32.toInt_inj.symm
theorem own_i0 : (0 : Int32).toInt = 0 := rfl
theorem own_i1 : (1 : Int32).toInt = 1 := rfl
theorem own_nat {j z : Int32} (h0 : ¬ j < 0) (h : j < z) : j.toNatClampNeg < z.toNatClampNeg := by
  have a := nat_of h0
  have hz : ¬ z < 0 := by rw [own_lt32] at *; rw [own_i0] at *; omega
  have b := nat_of hz
  rw [own_lt32] at h; omega
theorem own_mx {x v : Int32} (h : (x &&& (2147483647 : Int32)) = v) : ¬ v < (0 : Int32) := by
  have e := c_mask x 2147483647 31 (by decide) (by decide)
  rw [h] at e; rw [own_lt32, own_i0]; omega
theorem own_mx1 {x v : Int32} (h : (x &&& (2147483647 : Int32)) = v) (h0 : ¬ v = 0) : ¬ v < (1 : Int32) := by
  have e := c_mask x 2147483647 31 (by decide) (by decide)
  rw [h] at e; rw [own_eq32, own_i0] at h0; rw [own_lt32, own_i1]; omega
theorem own_rem3 {x v : Int32} (h0 : ¬ x < (0 : Int32)) (h : (x % (3 : Int32)) = v) : v = (0 : Int32) ∨ v = (1 : Int32) ∨ v = (2 : Int32) := by
  have e := (c_irem x 3 3 rfl).1 (by rw [own_lt32, own_i0] at h0; omega)
  rw [h] at e
  have : v.toInt = 0 ∨ v.toInt = 1 ∨ v.toInt = 2 := by omega
  rcases this with q | q | q
  · left; exact Int32.toInt_inj.mp q
  · right; left; exact Int32.toInt_inj.mp q
  · right; right; exact Int32.toInt_inj.mp q
theorem own_ushr0 (x q : Int32) (k : Nat) (hk : q.toBitVec.toNat % 32 = k) (hk0 : 0 < k) : ¬ ((x.toUInt32 >>> (q &&& 31).toUInt32).toInt32) < (0 : Int32) := by
  have e := c_iushr x q k hk hk0
  rw [own_lt32, e, own_i0]
  have : 0 ≤ (x.toInt % 4294967296) / ((2 ^ k : Nat) : Int) := Int.ediv_nonneg (Int.emod_nonneg _ (by decide)) (Int.natCast_nonneg _)
  omega
def own_pr (f : Nat → Int32) : Nat → Nat → Int64 → Int64
  | 0, _, acc => acc
  | k + 1, i, acc => if (((f i) - (48 : Int32)) < (0 : Int32) ∨ (9 : Int32) < ((f i) - (48 : Int32)) ∨ ¬ (acc < (922337203685477580 : Int64) ∨ (acc = (922337203685477580 : Int64) ∧ ¬ (7 : Int64) < (((f i) - (48 : Int32)).toInt64)))) then (-1 : Int64) else own_pr f k (i + 1) ((acc * (10 : Int64)) + (((f i) - (48 : Int32)).toInt64))
def own_f (l : List Int32) (i : Nat) : Int32 := l.getD i 0
theorem own_fv (l : List Int32) : ∀ i : Nat, (l.map Value.int).getD i (.int (0 : Int32)) = .int (own_f l i) := by
  induction l with
  | nil => intro i; rfl
  | cons a r ih =>
    intro i
    cases i with
    | zero => rfl
    | succ i => exact ih i
def own_st (acc : Int64) (b i fr to : Int32) : Int64 := if acc < (0 : Int64) then acc else if i < fr then acc else if i < to then (if (b - (48 : Int32)) < (0 : Int32) then (-1 : Int64) else if (9 : Int32) < (b - (48 : Int32)) then (-1 : Int64) else ((acc * (10 : Int64)) + ((b - (48 : Int32)).toInt64))) else acc
theorem own_ok {f : Nat → Int32} {k i : Nat} {acc acc' : Int64} {d : Int32} (hf : f i = d) (hb : ¬ ((d - (48 : Int32)) < (0 : Int32) ∨ (9 : Int32) < (d - (48 : Int32)) ∨ ¬ (acc < (922337203685477580 : Int64) ∨ (acc = (922337203685477580 : Int64) ∧ ¬ (7 : Int64) < ((d - (48 : Int32)).toInt64))))) (ha : ((acc * (10 : Int64)) + ((d - (48 : Int32)).toInt64)) = acc') : own_pr f (k + 1) i acc = own_pr f k (i + 1) acc' := by
  subst hf ha
  exact if_neg hb
theorem own_no {f : Nat → Int32} {k i : Nat} {acc : Int64} {d : Int32} (hf : f i = d) (hb : ((d - (48 : Int32)) < (0 : Int32) ∨ (9 : Int32) < (d - (48 : Int32)) ∨ ¬ (acc < (922337203685477580 : Int64) ∨ (acc = (922337203685477580 : Int64) ∧ ¬ (7 : Int64) < ((d - (48 : Int32)).toInt64))))) : own_pr f (k + 1) i acc = -1 := by
  subst hf
  exact if_pos hb
theorem own_nat1 {i to : Int32} {k : Nat} (hi : ¬ i < (0 : Int32)) (hk : i.toInt + ((k + 1 : Nat) : Int) = to.toInt) : ¬ (i + (1 : Int32)) < (0 : Int32) ∧ (i + (1 : Int32)).toInt + (k : Int) = to.toInt ∧ (i + (1 : Int32)).toNatClampNeg = i.toNatClampNeg + 1 := by
  have r := rng32 i
  have r2 := rng32 to
  have c := c_iadd i 1
  have r3 := rng32 (i + 1)
  rw [own_i1] at c
  rw [own_lt32, own_i0] at hi
  have e : (i + (1 : Int32)).toInt = i.toInt + 1 := by omega
  have h0 : ¬ (i + (1 : Int32)) < (0 : Int32) := by rw [own_lt32, e, own_i0]; omega
  refine ⟨h0, by rw [e]; omega, ?_⟩
  have a := nat_of h0
  have b := nat_of (j := i) (by rw [own_lt32, own_i0]; exact hi)
  omega
theorem own_dl {x : Int32} {y : Int} (h : x.toInt = y) : x.toInt64.toInt = y := by rw [c_i2l]; exact h
theorem own_s48 (b : Int32) (h0 : ¬ (b - (48 : Int32)) < (0 : Int32)) (h1 : ¬ (9 : Int32) < (b - (48 : Int32))) : 0 ≤ (b - (48 : Int32)).toInt ∧ (b - (48 : Int32)).toInt ≤ 9 := by
  have t : (9 : Int32).toInt = 9 := rfl
  rw [own_lt32, own_i0] at h0; rw [own_lt32, t] at h1; omega
theorem own_gap {fr to : Int32} (h0 : ¬ fr < (0 : Int32)) (h : ¬ to < fr) : fr.toInt + ((to.toNatClampNeg - fr.toNatClampNeg : Nat) : Int) = to.toInt := by
  have a := nat_of h0
  rw [own_lt32, own_i0] at h0; rw [own_lt32] at h
  have b := nat_of (j := to) (by rw [own_lt32, own_i0]; omega)
  omega
theorem own_ltzero {i to : Int32} (hi : ¬ i < (0 : Int32)) (hk : i.toInt + ((0 : Nat) : Int) = to.toInt) : ¬ i < to := by rw [own_lt32]; omega
theorem own_ltsucc {i to : Int32} {k : Nat} (hi : ¬ i < (0 : Int32)) (hk : i.toInt + ((k + 1 : Nat) : Int) = to.toInt) : i < to := by rw [own_lt32]; omega
theorem own_in {i to z : Int32} (hi : ¬ i < (0 : Int32)) (h : i < to) (hz : ¬ z < to) : ¬ i < (0 : Int32) ∧ i < z := ⟨hi, by rw [own_lt32] at *; omega⟩
def own_ch (f : Nat → Int32) (fr to : Int32) : Nat → Nat → Int64 → Int64
  | 0, _, acc => acc
  | n + 1, i, acc => own_ch f fr to n (i + 1) (own_st acc (f i) (Int32.ofNat i) fr to)
theorem own_z64 : (0 : Int64).toInt = 0 := rfl
theorem own_m64 : (-1 : Int64).toInt = -1 := rfl
theorem own_lt64 {x y : Int64} : x < y ↔ x.toInt < y.toInt := Int64.lt_iff_toInt_lt
theorem own_of {i : Nat} (h : i ≤ 4) : (Int32.ofNat i).toInt = i := by
  have : i = 0 ∨ i = 1 ∨ i = 2 ∨ i = 3 ∨ i = 4 := by omega
  rcases this with rfl | rfl | rfl | rfl | rfl <;> rfl
theorem own_pow {i : Nat} (h : i ≤ 4) : (1 : Int) ≤ (10 : Int) ^ i ∧ (10 : Int) ^ i ≤ 10000 := by
  have : i = 0 ∨ i = 1 ∨ i = 2 ∨ i = 3 ∨ i = 4 := by omega
  rcases this with rfl | rfl | rfl | rfl | rfl <;> decide
theorem own_ch_neg {f : Nat → Int32} {fr to : Int32} : ∀ (n i : Nat), own_ch f fr to n i (-1) = -1 := by
  intro n
  induction n with
  | zero => intro i; rfl
  | succ n ih =>
    intro i
    show own_ch f fr to n (i + 1) (own_st (-1) (f i) (Int32.ofNat i) fr to) = -1
    have e : own_st (-1) (f i) (Int32.ofNat i) fr to = -1 := if_pos (by decide)
    rw [e]; exact ih _
theorem own_ma (a : Int64) (x : Int32) (h0 : 0 ≤ a.toInt) (h1 : a.toInt * 10 + 9 < 9223372036854775808) (hx : 0 ≤ x.toInt ∧ x.toInt ≤ 9) : ((a * (10 : Int64)) + (x.toInt64)).toInt = a.toInt * 10 + x.toInt := by
  have c1 := c_lmul a 10
  have c2 := c_ladd (a * 10) x.toInt64
  have r1 := rng64 (a * 10)
  have r2 := rng64 (a * 10 + x.toInt64)
  have e : (10 : Int64).toInt = 10 := rfl
  rw [e] at c1
  rw [c_i2l] at c2
  omega
theorem own_acc {acc : Int64} {x : Int32} {P : Int} (h0 : 0 ≤ acc.toInt) (h1 : acc.toInt < P) (hP : P ≤ 10000) (d0 : ¬ x < (0 : Int32)) (d9 : ¬ (9 : Int32) < x) : ((acc * (10 : Int64)) + (x.toInt64)).toInt = acc.toInt * 10 + x.toInt ∧ 0 ≤ x.toInt ∧ x.toInt ≤ 9 := by
  have t9 : (9 : Int32).toInt = 9 := rfl
  have t10 : (10 : Int64).toInt = 10 := rfl
  rw [own_lt32, own_i0] at d0; rw [own_lt32, t9] at d9
  exact ⟨own_ma acc x h0 (by omega) (by omega), by omega, by omega⟩
theorem own_chain {f : Nat → Int32} {fr to : Int32} (hto : to.toInt ≤ 4) (h0 : 0 ≤ fr.toInt) (hft : fr.toInt ≤ to.toInt) : ∀ (n i : Nat) (acc : Int64), i + n = 4 → fr.toInt ≤ (i : Int) → 0 ≤ acc.toInt → acc.toInt < (10 : Int) ^ i → own_ch f fr to n i acc = own_pr f (to.toNatClampNeg - i) i acc := by
  have hn := nat_of (j := to) (by rw [own_lt32, own_i0]; omega)
  intro n
  induction n with
  | zero =>
    intro i acc hi _ _ _
    have e : to.toNatClampNeg - i = 0 := by omega
    rw [e]; rfl
  | succ n ih =>
    intro i acc hi hf ha hb
    have ho := own_of (i := i) (by omega)
    have hp := own_pow (i := i) (by omega)
    have hps : (10 : Int) ^ (i + 1) = (10 : Int) ^ i * 10 := Int.pow_succ ..
    have hna : ¬ acc < (0 : Int64) := by rw [own_lt64, own_z64]; omega
    have hnf : ¬ Int32.ofNat i < fr := by rw [own_lt32, ho]; omega
    show own_ch f fr to n (i + 1) (own_st acc (f i) (Int32.ofNat i) fr to) = _
    by_cases hj : (i : Int) < to.toInt
    · have hjt : Int32.ofNat i < to := by rw [own_lt32, ho]; exact hj
      have e : to.toNatClampNeg - i = (to.toNatClampNeg - (i + 1)) + 1 := by omega
      rw [e]
      have es : own_st acc (f i) (Int32.ofNat i) fr to = (if ((f i) - (48 : Int32)) < (0 : Int32) then (-1 : Int64) else if (9 : Int32) < ((f i) - (48 : Int32)) then (-1 : Int64) else ((acc * (10 : Int64)) + (((f i) - (48 : Int32)).toInt64))) := by
        unfold own_st; rw [if_neg hna, if_neg hnf, if_pos hjt]
      rw [es]
      have hlim : acc < (922337203685477580 : Int64) := by
        rw [own_lt64]
        have tl : (922337203685477580 : Int64).toInt = 922337203685477580 := rfl
        rw [tl]; omega
      by_cases d0 : ((f i) - (48 : Int32)) < (0 : Int32)
      · rw [if_pos d0, own_ch_neg, own_no rfl (Or.inl d0)]
      · by_cases d9 : (9 : Int32) < ((f i) - (48 : Int32))
        · rw [if_neg d0, if_pos d9, own_ch_neg, own_no rfl (Or.inr (Or.inl d9))]
        · rw [if_neg d0, if_neg d9, own_ok rfl (fun h => h.elim d0 (fun h => h.elim d9 (fun h => h (Or.inl hlim)))) rfl]
          obtain ⟨q1, q2, q3⟩ := own_acc ha hb hp.2 d0 d9
          exact ih (i + 1) _ (by omega) (by omega) (by rw [q1]; omega) (by rw [q1, hps]; omega)
    · have hjt : ¬ Int32.ofNat i < to := by rw [own_lt32, ho]; exact hj
      have es : own_st acc (f i) (Int32.ofNat i) fr to = acc := by
        unfold own_st; rw [if_neg hna, if_neg hnf, if_neg hjt]
      rw [es, ih (i + 1) acc (by omega) (by omega) ha (by rw [hps]; omega)]
      have e1 : to.toNatClampNeg - i = 0 := by omega
      have e2 : to.toNatClampNeg - (i + 1) = 0 := by omega
      rw [e1, e2]; rfl
theorem own_chain0 {f : Nat → Int32} {fr to : Int32} (hto : to.toInt ≤ 4) (h0 : 0 ≤ fr.toInt) (hft : fr.toInt ≤ to.toInt) : ∀ (n i : Nat), i + n = 4 → (i : Int) ≤ fr.toInt → own_ch f fr to n i 0 = own_pr f (to.toNatClampNeg - fr.toNatClampNeg) fr.toNatClampNeg 0 := by
  have hn := nat_of (j := fr) (by rw [own_lt32, own_i0]; omega)
  intro n
  induction n with
  | zero =>
    intro i hi hf
    have e : fr.toNatClampNeg = i := by omega
    rw [e]; exact own_chain hto h0 hft 0 i 0 hi (by omega) (by decide) (own_pow (i := i) (by omega)).1
  | succ n ih =>
    intro i hi hf
    by_cases he : (i : Int) = fr.toInt
    · have e : fr.toNatClampNeg = i := by omega
      rw [e]; exact own_chain hto h0 hft (n + 1) i 0 hi (by omega) (by decide) (own_pow (i := i) (by omega)).1
    · show own_ch f fr to n (i + 1) (own_st 0 (f i) (Int32.ofNat i) fr to) = _
      have ho := own_of (i := i) (by omega)
      have hif : Int32.ofNat i < fr := by rw [own_lt32, ho]; omega
      have es : own_st 0 (f i) (Int32.ofNat i) fr to = 0 := by
        unfold own_st; rw [if_neg (by decide), if_pos hif]
      rw [es]; exact ih (i + 1) (by omega) (by omega)
theorem own_fin0 {b0 b1 b2 b3 fr to : Int32} {r1 r2 r3 r4 : Int64} (hto : to.toInt ≤ 4) (h0 : 0 ≤ fr.toInt) (hft : fr.toInt ≤ to.toInt) (hne : ¬ fr = to) (h1 : own_st (0 : Int64) b0 (0 : Int32) fr to = r1) (h2 : own_st r1 b1 (1 : Int32) fr to = r2) (h3 : own_st r2 b2 (2 : Int32) fr to = r3) (h4 : own_st r3 b3 (3 : Int32) fr to = r4) {r : Int64} (hr : (if fr = to then (-1 : Int64) else own_pr (own_f [b0, b1, b2, b3]) (to.toNatClampNeg - fr.toNatClampNeg) fr.toNatClampNeg (0 : Int64)) = r) : r = r4 := by
  rw [if_neg hne] at hr
  rw [← hr, ← own_chain0 (f := own_f [b0, b1, b2, b3]) hto h0 hft 4 0 rfl h0]
  subst h1 h2 h3 h4
  rfl
theorem own_fin1 {b0 b1 b2 b3 fr to : Int32} {r1 r2 r3 r4 : Int64} (he : fr = to) (h1 : own_st (-1 : Int64) b0 (0 : Int32) fr to = r1) (h2 : own_st r1 b1 (1 : Int32) fr to = r2) (h3 : own_st r2 b2 (2 : Int32) fr to = r3) (h4 : own_st r3 b3 (3 : Int32) fr to = r4) {w : Int64} {r : Int64} (hr : (if fr = to then (-1 : Int64) else w) = r) : r = r4 := by
  rw [if_pos he] at hr
  have n : ∀ (b i : Int32), own_st (-1) b i fr to = -1 := fun b i => if_pos (by decide)
  rw [n] at h1; subst h1
  rw [n] at h2; subst h2
  rw [n] at h3; subst h3
  rw [n] at h4; subst h4
  exact hr.symm
theorem own_mm {u v a b : Int32} (hu : 0 ≤ u.toInt ∧ u.toInt ≤ 4) (hv : 0 ≤ v.toInt ∧ v.toInt ≤ 4) (ha : (if v < u then v else u) = a) (hb : (if u < v then v else u) = b) : 0 ≤ a.toInt ∧ a.toInt ≤ b.toInt ∧ b.toInt ≤ 4 := by
  by_cases h : v < u
  · have h' : ¬ u < v := by rw [own_lt32] at *; omega
    rw [if_pos h] at ha; rw [if_neg h'] at hb; subst ha hb; rw [own_lt32] at h; omega
  · rw [if_neg h] at ha
    by_cases h' : u < v
    · rw [if_pos h'] at hb; subst ha hb; rw [own_lt32] at h'; omega
    · rw [if_neg h'] at hb; subst ha hb; omega
theorem own_r5 {x v : Int32} (h : ((x &&& (7 : Int32)) % (5 : Int32)) = v) : 0 ≤ v.toInt ∧ v.toInt ≤ 4 := by
  have m := c_mask x 7 3 (by decide) (by decide)
  have e := (c_irem (x &&& 7) 5 5 rfl).1 (by rw [m]; omega)
  rw [h] at e; omega
theorem own_le {a b : Int32} (h : a.toInt ≤ b.toInt) : ¬ b < a := by rw [own_lt32]; omega
theorem own_ge0 {a : Int32} (h : 0 ≤ a.toInt) : ¬ a < (0 : Int32) := by rw [own_lt32, own_i0]; omega
theorem own_seven {b0 b1 b2 : Int32} : own_pr (own_f [b0, (57 : Int32), (50 : Int32), (50 : Int32), (51 : Int32), (51 : Int32), (55 : Int32), (50 : Int32), (48 : Int32), (51 : Int32), (54 : Int32), (56 : Int32), (53 : Int32), (52 : Int32), (55 : Int32), (55 : Int32), (53 : Int32), (56 : Int32), b1, b2]) 19 1 0 = own_pr (own_f [b0, (57 : Int32), (50 : Int32), (50 : Int32), (51 : Int32), (51 : Int32), (55 : Int32), (50 : Int32), (48 : Int32), (51 : Int32), (54 : Int32), (56 : Int32), (53 : Int32), (52 : Int32), (55 : Int32), (55 : Int32), (53 : Int32), (56 : Int32), b1, b2]) 2 18 (92233720368547758 : Int64) := by
  rw [own_ok (k := 18) (i := 1) (d := (57 : Int32)) (acc' := (9 : Int64)) rfl (by decide) (by decide)]
  rw [own_ok (k := 17) (i := 2) (d := (50 : Int32)) (acc' := (92 : Int64)) rfl (by decide) (by decide)]
  rw [own_ok (k := 16) (i := 3) (d := (50 : Int32)) (acc' := (922 : Int64)) rfl (by decide) (by decide)]
  rw [own_ok (k := 15) (i := 4) (d := (51 : Int32)) (acc' := (9223 : Int64)) rfl (by decide) (by decide)]
  rw [own_ok (k := 14) (i := 5) (d := (51 : Int32)) (acc' := (92233 : Int64)) rfl (by decide) (by decide)]
  rw [own_ok (k := 13) (i := 6) (d := (55 : Int32)) (acc' := (922337 : Int64)) rfl (by decide) (by decide)]
  rw [own_ok (k := 12) (i := 7) (d := (50 : Int32)) (acc' := (9223372 : Int64)) rfl (by decide) (by decide)]
  rw [own_ok (k := 11) (i := 8) (d := (48 : Int32)) (acc' := (92233720 : Int64)) rfl (by decide) (by decide)]
  rw [own_ok (k := 10) (i := 9) (d := (51 : Int32)) (acc' := (922337203 : Int64)) rfl (by decide) (by decide)]
  rw [own_ok (k := 9) (i := 10) (d := (54 : Int32)) (acc' := (9223372036 : Int64)) rfl (by decide) (by decide)]
  rw [own_ok (k := 8) (i := 11) (d := (56 : Int32)) (acc' := (92233720368 : Int64)) rfl (by decide) (by decide)]
  rw [own_ok (k := 7) (i := 12) (d := (53 : Int32)) (acc' := (922337203685 : Int64)) rfl (by decide) (by decide)]
  rw [own_ok (k := 6) (i := 13) (d := (52 : Int32)) (acc' := (9223372036854 : Int64)) rfl (by decide) (by decide)]
  rw [own_ok (k := 5) (i := 14) (d := (55 : Int32)) (acc' := (92233720368547 : Int64)) rfl (by decide) (by decide)]
  rw [own_ok (k := 4) (i := 15) (d := (55 : Int32)) (acc' := (922337203685477 : Int64)) rfl (by decide) (by decide)]
  rw [own_ok (k := 3) (i := 16) (d := (53 : Int32)) (acc' := (9223372036854775 : Int64)) rfl (by decide) (by decide)]
  rw [own_ok (k := 2) (i := 17) (d := (56 : Int32)) (acc' := (92233720368547758 : Int64)) rfl (by decide) (by decide)]
theorem own_last {b0 b1 b2 : Int32} {e : Int64} (he : e = if (b1 - (48 : Int32)) = (0 : Int32) ∧ ¬ (b2 - (48 : Int32)) < (0 : Int32) ∧ ¬ (7 : Int32) < (b2 - (48 : Int32)) then ((9223372036854775800 : Int64) + ((b2 - (48 : Int32)).toInt64)) else (-1 : Int64)) : own_pr (own_f [b0, (57 : Int32), (50 : Int32), (50 : Int32), (51 : Int32), (51 : Int32), (55 : Int32), (50 : Int32), (48 : Int32), (51 : Int32), (54 : Int32), (56 : Int32), (53 : Int32), (52 : Int32), (55 : Int32), (55 : Int32), (53 : Int32), (56 : Int32), b1, b2]) 2 18 (92233720368547758 : Int64) = e := by
  subst he
  have f18 : own_f [b0, (57 : Int32), (50 : Int32), (50 : Int32), (51 : Int32), (51 : Int32), (55 : Int32), (50 : Int32), (48 : Int32), (51 : Int32), (54 : Int32), (56 : Int32), (53 : Int32), (52 : Int32), (55 : Int32), (55 : Int32), (53 : Int32), (56 : Int32), b1, b2] 18 = b1 := rfl
  have f19 : own_f [b0, (57 : Int32), (50 : Int32), (50 : Int32), (51 : Int32), (51 : Int32), (55 : Int32), (50 : Int32), (48 : Int32), (51 : Int32), (54 : Int32), (56 : Int32), (53 : Int32), (52 : Int32), (55 : Int32), (55 : Int32), (53 : Int32), (56 : Int32), b1, b2] 19 = b2 := rfl
  generalize hd1 : (b1 - (48 : Int32)) = x at *
  generalize hd2 : (b2 - (48 : Int32)) = y at *
  have t9 : (9 : Int32).toInt = 9 := rfl
  have t7 : (7 : Int32).toInt = 7 := rfl
  have l7 : (7 : Int64).toInt = 7 := rfl
  have tl : (922337203685477580 : Int64).toInt = 922337203685477580 := rfl
  by_cases x0 : x < (0 : Int32)
  · rw [own_no (d := b1) f18 (by rw [hd1]; exact Or.inl x0), if_neg]
    rintro ⟨q, -⟩; subst q; exact absurd x0 (by decide)
  · by_cases x9 : (9 : Int32) < x
    · rw [own_no (d := b1) f18 (by rw [hd1]; exact Or.inr (Or.inl x9)), if_neg]
      rintro ⟨q, -⟩; subst q; exact absurd x9 (by decide)
    · have hx0 := x0; have hx9 := x9
      rw [own_lt32, own_i0] at hx0; rw [own_lt32, t9] at hx9
      obtain ⟨A, hA⟩ : ∃ A : Int64, (((92233720368547758 : Int64) * (10 : Int64)) + (x.toInt64)) = A := ⟨_, rfl⟩
      have hAi : A.toInt = 922337203685477580 + x.toInt := by
        have t1 : ((92233720368547758 : Int64) * (10 : Int64)) = (922337203685477580 : Int64) := by decide
        rw [← hA, t1]
        have c2 := c_ladd (922337203685477580 : Int64) x.toInt64
        have r2 := rng64 ((922337203685477580 : Int64) + x.toInt64)
        rw [c_i2l, tl] at c2
        omega
      rw [own_ok (d := b1) (acc' := A) f18 (by rw [hd1]; exact fun h => h.elim x0 (fun h => h.elim x9 (fun h => h (Or.inl (by decide))))) (by rw [hd1]; exact hA)]
      by_cases y0 : y < (0 : Int32)
      · rw [own_no (d := b2) f19 (by rw [hd2]; exact Or.inl y0), if_neg]
        rintro ⟨-, q, -⟩; exact q y0
      · by_cases y9 : (9 : Int32) < y
        · rw [own_no (d := b2) f19 (by rw [hd2]; exact Or.inr (Or.inl y9)), if_neg]
          rintro ⟨-, -, q⟩; rw [own_lt32] at q y9; omega
        · by_cases c : A = (922337203685477580 : Int64) ∧ ¬ (7 : Int64) < (y.toInt64)
          · have hy : ¬ (7 : Int32) < y := by
              have := c.2; rw [own_lt64, c_i2l, l7] at this; rw [own_lt32, t7]; exact this
            have hx : x = (0 : Int32) := by
              have := congrArg Int64.toInt c.1; rw [hAi, tl] at this; rw [own_eq32, own_i0]; omega
            rw [own_ok (d := b2) (acc' := ((9223372036854775800 : Int64) + (y.toInt64))) f19 (by rw [hd2]; exact fun h => h.elim y0 (fun h => h.elim y9 (fun h => h (Or.inr c)))) (by rw [hd2, c.1]; rfl), if_pos ⟨hx, y0, hy⟩]
            rfl
          · rw [own_no (d := b2) f19 (by
              rw [hd2]; refine Or.inr (Or.inr (fun h => h.elim (fun q => ?_) c))
              rw [own_lt64, hAi, tl] at q; omega), if_neg]
            rintro ⟨q, -, q7⟩
            apply c
            refine ⟨?_, ?_⟩
            · apply Int64.toInt_inj.mp; rw [hAi, tl, q, own_i0]; rfl
            · rw [own_lt64, c_i2l, l7]; rw [own_lt32, t7] at q7; exact q7
theorem own_m2 {b0 b1 b2 : Int32} {e : Int64} (he : e = if (b1 - (48 : Int32)) = (0 : Int32) ∧ ¬ (b2 - (48 : Int32)) < (0 : Int32) ∧ ¬ (7 : Int32) < (b2 - (48 : Int32)) then ((9223372036854775800 : Int64) + ((b2 - (48 : Int32)).toInt64)) else (-1 : Int64)) : (if (1 : Int32) = (20 : Int32) then (-1 : Int64) else own_pr (own_f [b0, (57 : Int32), (50 : Int32), (50 : Int32), (51 : Int32), (51 : Int32), (55 : Int32), (50 : Int32), (48 : Int32), (51 : Int32), (54 : Int32), (56 : Int32), (53 : Int32), (52 : Int32), (55 : Int32), (55 : Int32), (53 : Int32), (56 : Int32), b1, b2]) ((20 : Int32).toNatClampNeg - (1 : Int32).toNatClampNeg) (1 : Int32).toNatClampNeg (0 : Int64)) = e := by
  rw [if_neg (by decide)]
  exact (own_seven (b0 := b0) (b1 := b1) (b2 := b2)).trans (own_last he)
theorem own_m3 {b0 b1 b2 : Int32} {e : Int64} (h48 : b0 = (48 : Int32)) (he : e = if (b1 - (48 : Int32)) = (0 : Int32) ∧ ¬ (b2 - (48 : Int32)) < (0 : Int32) ∧ ¬ (7 : Int32) < (b2 - (48 : Int32)) then ((9223372036854775800 : Int64) + ((b2 - (48 : Int32)).toInt64)) else (-1 : Int64)) : (if (0 : Int32) = (20 : Int32) then (-1 : Int64) else own_pr (own_f [b0, (57 : Int32), (50 : Int32), (50 : Int32), (51 : Int32), (51 : Int32), (55 : Int32), (50 : Int32), (48 : Int32), (51 : Int32), (54 : Int32), (56 : Int32), (53 : Int32), (52 : Int32), (55 : Int32), (55 : Int32), (53 : Int32), (56 : Int32), b1, b2]) ((20 : Int32).toNatClampNeg - (0 : Int32).toNatClampNeg) (0 : Int32).toNatClampNeg (0 : Int64)) = e := by
  rw [if_neg (by decide)]
  show own_pr (own_f [b0, (57 : Int32), (50 : Int32), (50 : Int32), (51 : Int32), (51 : Int32), (55 : Int32), (50 : Int32), (48 : Int32), (51 : Int32), (54 : Int32), (56 : Int32), (53 : Int32), (52 : Int32), (55 : Int32), (55 : Int32), (53 : Int32), (56 : Int32), b1, b2]) 20 0 0 = e
  rw [own_ok (k := 19) (i := 0) (d := (48 : Int32)) (acc' := (0 : Int64)) h48 (by decide) (by decide)]
  exact (own_seven (b0 := b0) (b1 := b1) (b2 := b2)).trans (own_last he)
theorem own_two {f : Nat → Int32} {A : Int64} {b1 b2 : Int32} (hA : 100000000000000000 ≤ A.toInt ∧ A.toInt < 922337203685477580) (f18 : f 18 = b1) (f19 : f 19 = b2) : own_pr f 2 18 A = -1 := by
  have tl : (922337203685477580 : Int64).toInt = 922337203685477580 := rfl
  have t9 : (9 : Int32).toInt = 9 := rfl
  have t10 : (10 : Int64).toInt = 10 := rfl
  by_cases x0 : (b1 - (48 : Int32)) < (0 : Int32)
  · exact own_no f18 (Or.inl x0)
  · by_cases x9 : (9 : Int32) < (b1 - (48 : Int32))
    · exact own_no f18 (Or.inr (Or.inl x9))
    · rw [own_ok f18 (fun h => h.elim x0 (fun h => h.elim x9 (fun h => h (Or.inl (by rw [own_lt64, tl]; exact hA.2))))) rfl]
      rw [own_lt32, own_i0] at x0; rw [own_lt32, t9] at x9
      have hB : ((A * (10 : Int64)) + ((b1 - (48 : Int32)).toInt64)).toInt = A.toInt * 10 + (b1 - (48 : Int32)).toInt := by
        exact own_ma A (b1 - (48 : Int32)) (by omega) (by omega) (by omega)
      refine own_no f19 (Or.inr (Or.inr (fun h => h.elim (fun q => ?_) (fun q => ?_))))
      · rw [own_lt64, hB, tl] at q; omega
      · have q1 := congrArg Int64.toInt q.1
        rw [hB, tl] at q1; omega
theorem own_m4a {b0 b1 b2 : Int32} (h48 : ¬ b0 = (48 : Int32)) : own_pr (own_f [b0, (57 : Int32), (50 : Int32), (50 : Int32), (51 : Int32), (51 : Int32), (55 : Int32), (50 : Int32), (48 : Int32), (51 : Int32), (54 : Int32), (56 : Int32), (53 : Int32), (52 : Int32), (55 : Int32), (55 : Int32), (53 : Int32), (56 : Int32), b1, b2]) 20 0 0 = -1 := by
  by_cases x0 : (b0 - (48 : Int32)) < (0 : Int32)
  · exact own_no (d := b0) rfl (Or.inl x0)
  · by_cases x9 : (9 : Int32) < (b0 - (48 : Int32))
    · exact own_no (d := b0) rfl (Or.inr (Or.inl x9))
    · have e : b0 = (49 : Int32) ∨ b0 = (50 : Int32) ∨ b0 = (51 : Int32) ∨ b0 = (52 : Int32) ∨ b0 = (53 : Int32) ∨ b0 = (54 : Int32) ∨ b0 = (55 : Int32) ∨ b0 = (56 : Int32) ∨ b0 = (57 : Int32) := by
        have t9 : (9 : Int32).toInt = 9 := rfl
        have t48 : (48 : Int32).toInt = 48 := rfl
        have c := c_isub b0 48
        have r := rng32 b0
        rw [own_lt32, own_i0] at x0; rw [own_lt32, t9] at x9; rw [t48] at c; rw [own_eq32, t48] at h48
        have : b0.toInt = 49 ∨ b0.toInt = 50 ∨ b0.toInt = 51 ∨ b0.toInt = 52 ∨ b0.toInt = 53 ∨ b0.toInt = 54 ∨ b0.toInt = 55 ∨ b0.toInt = 56 ∨ b0.toInt = 57 := by omega
        simp only [own_eq32]
        exact this
      rcases e with rfl | rfl | rfl | rfl | rfl | rfl | rfl | rfl | rfl
      · rw [own_ok (k := 19) (i := 0) (d := (49 : Int32)) (acc' := (1 : Int64)) rfl (by decide) (by decide)]
        rw [own_ok (k := 18) (i := 1) (d := (57 : Int32)) (acc' := (19 : Int64)) rfl (by decide) (by decide)]
        rw [own_ok (k := 17) (i := 2) (d := (50 : Int32)) (acc' := (192 : Int64)) rfl (by decide) (by decide)]
        rw [own_ok (k := 16) (i := 3) (d := (50 : Int32)) (acc' := (1922 : Int64)) rfl (by decide) (by decide)]
        rw [own_ok (k := 15) (i := 4) (d := (51 : Int32)) (acc' := (19223 : Int64)) rfl (by decide) (by decide)]
        rw [own_ok (k := 14) (i := 5) (d := (51 : Int32)) (acc' := (192233 : Int64)) rfl (by decide) (by decide)]
        rw [own_ok (k := 13) (i := 6) (d := (55 : Int32)) (acc' := (1922337 : Int64)) rfl (by decide) (by decide)]
        rw [own_ok (k := 12) (i := 7) (d := (50 : Int32)) (acc' := (19223372 : Int64)) rfl (by decide) (by decide)]
        rw [own_ok (k := 11) (i := 8) (d := (48 : Int32)) (acc' := (192233720 : Int64)) rfl (by decide) (by decide)]
        rw [own_ok (k := 10) (i := 9) (d := (51 : Int32)) (acc' := (1922337203 : Int64)) rfl (by decide) (by decide)]
        rw [own_ok (k := 9) (i := 10) (d := (54 : Int32)) (acc' := (19223372036 : Int64)) rfl (by decide) (by decide)]
        rw [own_ok (k := 8) (i := 11) (d := (56 : Int32)) (acc' := (192233720368 : Int64)) rfl (by decide) (by decide)]
        rw [own_ok (k := 7) (i := 12) (d := (53 : Int32)) (acc' := (1922337203685 : Int64)) rfl (by decide) (by decide)]
        rw [own_ok (k := 6) (i := 13) (d := (52 : Int32)) (acc' := (19223372036854 : Int64)) rfl (by decide) (by decide)]
        rw [own_ok (k := 5) (i := 14) (d := (55 : Int32)) (acc' := (192233720368547 : Int64)) rfl (by decide) (by decide)]
        rw [own_ok (k := 4) (i := 15) (d := (55 : Int32)) (acc' := (1922337203685477 : Int64)) rfl (by decide) (by decide)]
        rw [own_ok (k := 3) (i := 16) (d := (53 : Int32)) (acc' := (19223372036854775 : Int64)) rfl (by decide) (by decide)]
        rw [own_ok (k := 2) (i := 17) (d := (56 : Int32)) (acc' := (192233720368547758 : Int64)) rfl (by decide) (by decide)]
        exact own_two (by decide) rfl rfl
      · rw [own_ok (k := 19) (i := 0) (d := (50 : Int32)) (acc' := (2 : Int64)) rfl (by decide) (by decide)]
        rw [own_ok (k := 18) (i := 1) (d := (57 : Int32)) (acc' := (29 : Int64)) rfl (by decide) (by decide)]
        rw [own_ok (k := 17) (i := 2) (d := (50 : Int32)) (acc' := (292 : Int64)) rfl (by decide) (by decide)]
        rw [own_ok (k := 16) (i := 3) (d := (50 : Int32)) (acc' := (2922 : Int64)) rfl (by decide) (by decide)]
        rw [own_ok (k := 15) (i := 4) (d := (51 : Int32)) (acc' := (29223 : Int64)) rfl (by decide) (by decide)]
        rw [own_ok (k := 14) (i := 5) (d := (51 : Int32)) (acc' := (292233 : Int64)) rfl (by decide) (by decide)]
        rw [own_ok (k := 13) (i := 6) (d := (55 : Int32)) (acc' := (2922337 : Int64)) rfl (by decide) (by decide)]
        rw [own_ok (k := 12) (i := 7) (d := (50 : Int32)) (acc' := (29223372 : Int64)) rfl (by decide) (by decide)]
        rw [own_ok (k := 11) (i := 8) (d := (48 : Int32)) (acc' := (292233720 : Int64)) rfl (by decide) (by decide)]
        rw [own_ok (k := 10) (i := 9) (d := (51 : Int32)) (acc' := (2922337203 : Int64)) rfl (by decide) (by decide)]
        rw [own_ok (k := 9) (i := 10) (d := (54 : Int32)) (acc' := (29223372036 : Int64)) rfl (by decide) (by decide)]
        rw [own_ok (k := 8) (i := 11) (d := (56 : Int32)) (acc' := (292233720368 : Int64)) rfl (by decide) (by decide)]
        rw [own_ok (k := 7) (i := 12) (d := (53 : Int32)) (acc' := (2922337203685 : Int64)) rfl (by decide) (by decide)]
        rw [own_ok (k := 6) (i := 13) (d := (52 : Int32)) (acc' := (29223372036854 : Int64)) rfl (by decide) (by decide)]
        rw [own_ok (k := 5) (i := 14) (d := (55 : Int32)) (acc' := (292233720368547 : Int64)) rfl (by decide) (by decide)]
        rw [own_ok (k := 4) (i := 15) (d := (55 : Int32)) (acc' := (2922337203685477 : Int64)) rfl (by decide) (by decide)]
        rw [own_ok (k := 3) (i := 16) (d := (53 : Int32)) (acc' := (29223372036854775 : Int64)) rfl (by decide) (by decide)]
        rw [own_ok (k := 2) (i := 17) (d := (56 : Int32)) (acc' := (292233720368547758 : Int64)) rfl (by decide) (by decide)]
        exact own_two (by decide) rfl rfl
      · rw [own_ok (k := 19) (i := 0) (d := (51 : Int32)) (acc' := (3 : Int64)) rfl (by decide) (by decide)]
        rw [own_ok (k := 18) (i := 1) (d := (57 : Int32)) (acc' := (39 : Int64)) rfl (by decide) (by decide)]
        rw [own_ok (k := 17) (i := 2) (d := (50 : Int32)) (acc' := (392 : Int64)) rfl (by decide) (by decide)]
        rw [own_ok (k := 16) (i := 3) (d := (50 : Int32)) (acc' := (3922 : Int64)) rfl (by decide) (by decide)]
        rw [own_ok (k := 15) (i := 4) (d := (51 : Int32)) (acc' := (39223 : Int64)) rfl (by decide) (by decide)]
        rw [own_ok (k := 14) (i := 5) (d := (51 : Int32)) (acc' := (392233 : Int64)) rfl (by decide) (by decide)]
        rw [own_ok (k := 13) (i := 6) (d := (55 : Int32)) (acc' := (3922337 : Int64)) rfl (by decide) (by decide)]
        rw [own_ok (k := 12) (i := 7) (d := (50 : Int32)) (acc' := (39223372 : Int64)) rfl (by decide) (by decide)]
        rw [own_ok (k := 11) (i := 8) (d := (48 : Int32)) (acc' := (392233720 : Int64)) rfl (by decide) (by decide)]
        rw [own_ok (k := 10) (i := 9) (d := (51 : Int32)) (acc' := (3922337203 : Int64)) rfl (by decide) (by decide)]
        rw [own_ok (k := 9) (i := 10) (d := (54 : Int32)) (acc' := (39223372036 : Int64)) rfl (by decide) (by decide)]
        rw [own_ok (k := 8) (i := 11) (d := (56 : Int32)) (acc' := (392233720368 : Int64)) rfl (by decide) (by decide)]
        rw [own_ok (k := 7) (i := 12) (d := (53 : Int32)) (acc' := (3922337203685 : Int64)) rfl (by decide) (by decide)]
        rw [own_ok (k := 6) (i := 13) (d := (52 : Int32)) (acc' := (39223372036854 : Int64)) rfl (by decide) (by decide)]
        rw [own_ok (k := 5) (i := 14) (d := (55 : Int32)) (acc' := (392233720368547 : Int64)) rfl (by decide) (by decide)]
        rw [own_ok (k := 4) (i := 15) (d := (55 : Int32)) (acc' := (3922337203685477 : Int64)) rfl (by decide) (by decide)]
        rw [own_ok (k := 3) (i := 16) (d := (53 : Int32)) (acc' := (39223372036854775 : Int64)) rfl (by decide) (by decide)]
        rw [own_ok (k := 2) (i := 17) (d := (56 : Int32)) (acc' := (392233720368547758 : Int64)) rfl (by decide) (by decide)]
        exact own_two (by decide) rfl rfl
      · rw [own_ok (k := 19) (i := 0) (d := (52 : Int32)) (acc' := (4 : Int64)) rfl (by decide) (by decide)]
        rw [own_ok (k := 18) (i := 1) (d := (57 : Int32)) (acc' := (49 : Int64)) rfl (by decide) (by decide)]
        rw [own_ok (k := 17) (i := 2) (d := (50 : Int32)) (acc' := (492 : Int64)) rfl (by decide) (by decide)]
        rw [own_ok (k := 16) (i := 3) (d := (50 : Int32)) (acc' := (4922 : Int64)) rfl (by decide) (by decide)]
        rw [own_ok (k := 15) (i := 4) (d := (51 : Int32)) (acc' := (49223 : Int64)) rfl (by decide) (by decide)]
        rw [own_ok (k := 14) (i := 5) (d := (51 : Int32)) (acc' := (492233 : Int64)) rfl (by decide) (by decide)]
        rw [own_ok (k := 13) (i := 6) (d := (55 : Int32)) (acc' := (4922337 : Int64)) rfl (by decide) (by decide)]
        rw [own_ok (k := 12) (i := 7) (d := (50 : Int32)) (acc' := (49223372 : Int64)) rfl (by decide) (by decide)]
        rw [own_ok (k := 11) (i := 8) (d := (48 : Int32)) (acc' := (492233720 : Int64)) rfl (by decide) (by decide)]
        rw [own_ok (k := 10) (i := 9) (d := (51 : Int32)) (acc' := (4922337203 : Int64)) rfl (by decide) (by decide)]
        rw [own_ok (k := 9) (i := 10) (d := (54 : Int32)) (acc' := (49223372036 : Int64)) rfl (by decide) (by decide)]
        rw [own_ok (k := 8) (i := 11) (d := (56 : Int32)) (acc' := (492233720368 : Int64)) rfl (by decide) (by decide)]
        rw [own_ok (k := 7) (i := 12) (d := (53 : Int32)) (acc' := (4922337203685 : Int64)) rfl (by decide) (by decide)]
        rw [own_ok (k := 6) (i := 13) (d := (52 : Int32)) (acc' := (49223372036854 : Int64)) rfl (by decide) (by decide)]
        rw [own_ok (k := 5) (i := 14) (d := (55 : Int32)) (acc' := (492233720368547 : Int64)) rfl (by decide) (by decide)]
        rw [own_ok (k := 4) (i := 15) (d := (55 : Int32)) (acc' := (4922337203685477 : Int64)) rfl (by decide) (by decide)]
        rw [own_ok (k := 3) (i := 16) (d := (53 : Int32)) (acc' := (49223372036854775 : Int64)) rfl (by decide) (by decide)]
        rw [own_ok (k := 2) (i := 17) (d := (56 : Int32)) (acc' := (492233720368547758 : Int64)) rfl (by decide) (by decide)]
        exact own_two (by decide) rfl rfl
      · rw [own_ok (k := 19) (i := 0) (d := (53 : Int32)) (acc' := (5 : Int64)) rfl (by decide) (by decide)]
        rw [own_ok (k := 18) (i := 1) (d := (57 : Int32)) (acc' := (59 : Int64)) rfl (by decide) (by decide)]
        rw [own_ok (k := 17) (i := 2) (d := (50 : Int32)) (acc' := (592 : Int64)) rfl (by decide) (by decide)]
        rw [own_ok (k := 16) (i := 3) (d := (50 : Int32)) (acc' := (5922 : Int64)) rfl (by decide) (by decide)]
        rw [own_ok (k := 15) (i := 4) (d := (51 : Int32)) (acc' := (59223 : Int64)) rfl (by decide) (by decide)]
        rw [own_ok (k := 14) (i := 5) (d := (51 : Int32)) (acc' := (592233 : Int64)) rfl (by decide) (by decide)]
        rw [own_ok (k := 13) (i := 6) (d := (55 : Int32)) (acc' := (5922337 : Int64)) rfl (by decide) (by decide)]
        rw [own_ok (k := 12) (i := 7) (d := (50 : Int32)) (acc' := (59223372 : Int64)) rfl (by decide) (by decide)]
        rw [own_ok (k := 11) (i := 8) (d := (48 : Int32)) (acc' := (592233720 : Int64)) rfl (by decide) (by decide)]
        rw [own_ok (k := 10) (i := 9) (d := (51 : Int32)) (acc' := (5922337203 : Int64)) rfl (by decide) (by decide)]
        rw [own_ok (k := 9) (i := 10) (d := (54 : Int32)) (acc' := (59223372036 : Int64)) rfl (by decide) (by decide)]
        rw [own_ok (k := 8) (i := 11) (d := (56 : Int32)) (acc' := (592233720368 : Int64)) rfl (by decide) (by decide)]
        rw [own_ok (k := 7) (i := 12) (d := (53 : Int32)) (acc' := (5922337203685 : Int64)) rfl (by decide) (by decide)]
        rw [own_ok (k := 6) (i := 13) (d := (52 : Int32)) (acc' := (59223372036854 : Int64)) rfl (by decide) (by decide)]
        rw [own_ok (k := 5) (i := 14) (d := (55 : Int32)) (acc' := (592233720368547 : Int64)) rfl (by decide) (by decide)]
        rw [own_ok (k := 4) (i := 15) (d := (55 : Int32)) (acc' := (5922337203685477 : Int64)) rfl (by decide) (by decide)]
        rw [own_ok (k := 3) (i := 16) (d := (53 : Int32)) (acc' := (59223372036854775 : Int64)) rfl (by decide) (by decide)]
        rw [own_ok (k := 2) (i := 17) (d := (56 : Int32)) (acc' := (592233720368547758 : Int64)) rfl (by decide) (by decide)]
        exact own_two (by decide) rfl rfl
      · rw [own_ok (k := 19) (i := 0) (d := (54 : Int32)) (acc' := (6 : Int64)) rfl (by decide) (by decide)]
        rw [own_ok (k := 18) (i := 1) (d := (57 : Int32)) (acc' := (69 : Int64)) rfl (by decide) (by decide)]
        rw [own_ok (k := 17) (i := 2) (d := (50 : Int32)) (acc' := (692 : Int64)) rfl (by decide) (by decide)]
        rw [own_ok (k := 16) (i := 3) (d := (50 : Int32)) (acc' := (6922 : Int64)) rfl (by decide) (by decide)]
        rw [own_ok (k := 15) (i := 4) (d := (51 : Int32)) (acc' := (69223 : Int64)) rfl (by decide) (by decide)]
        rw [own_ok (k := 14) (i := 5) (d := (51 : Int32)) (acc' := (692233 : Int64)) rfl (by decide) (by decide)]
        rw [own_ok (k := 13) (i := 6) (d := (55 : Int32)) (acc' := (6922337 : Int64)) rfl (by decide) (by decide)]
        rw [own_ok (k := 12) (i := 7) (d := (50 : Int32)) (acc' := (69223372 : Int64)) rfl (by decide) (by decide)]
        rw [own_ok (k := 11) (i := 8) (d := (48 : Int32)) (acc' := (692233720 : Int64)) rfl (by decide) (by decide)]
        rw [own_ok (k := 10) (i := 9) (d := (51 : Int32)) (acc' := (6922337203 : Int64)) rfl (by decide) (by decide)]
        rw [own_ok (k := 9) (i := 10) (d := (54 : Int32)) (acc' := (69223372036 : Int64)) rfl (by decide) (by decide)]
        rw [own_ok (k := 8) (i := 11) (d := (56 : Int32)) (acc' := (692233720368 : Int64)) rfl (by decide) (by decide)]
        rw [own_ok (k := 7) (i := 12) (d := (53 : Int32)) (acc' := (6922337203685 : Int64)) rfl (by decide) (by decide)]
        rw [own_ok (k := 6) (i := 13) (d := (52 : Int32)) (acc' := (69223372036854 : Int64)) rfl (by decide) (by decide)]
        rw [own_ok (k := 5) (i := 14) (d := (55 : Int32)) (acc' := (692233720368547 : Int64)) rfl (by decide) (by decide)]
        rw [own_ok (k := 4) (i := 15) (d := (55 : Int32)) (acc' := (6922337203685477 : Int64)) rfl (by decide) (by decide)]
        rw [own_ok (k := 3) (i := 16) (d := (53 : Int32)) (acc' := (69223372036854775 : Int64)) rfl (by decide) (by decide)]
        rw [own_ok (k := 2) (i := 17) (d := (56 : Int32)) (acc' := (692233720368547758 : Int64)) rfl (by decide) (by decide)]
        exact own_two (by decide) rfl rfl
      · rw [own_ok (k := 19) (i := 0) (d := (55 : Int32)) (acc' := (7 : Int64)) rfl (by decide) (by decide)]
        rw [own_ok (k := 18) (i := 1) (d := (57 : Int32)) (acc' := (79 : Int64)) rfl (by decide) (by decide)]
        rw [own_ok (k := 17) (i := 2) (d := (50 : Int32)) (acc' := (792 : Int64)) rfl (by decide) (by decide)]
        rw [own_ok (k := 16) (i := 3) (d := (50 : Int32)) (acc' := (7922 : Int64)) rfl (by decide) (by decide)]
        rw [own_ok (k := 15) (i := 4) (d := (51 : Int32)) (acc' := (79223 : Int64)) rfl (by decide) (by decide)]
        rw [own_ok (k := 14) (i := 5) (d := (51 : Int32)) (acc' := (792233 : Int64)) rfl (by decide) (by decide)]
        rw [own_ok (k := 13) (i := 6) (d := (55 : Int32)) (acc' := (7922337 : Int64)) rfl (by decide) (by decide)]
        rw [own_ok (k := 12) (i := 7) (d := (50 : Int32)) (acc' := (79223372 : Int64)) rfl (by decide) (by decide)]
        rw [own_ok (k := 11) (i := 8) (d := (48 : Int32)) (acc' := (792233720 : Int64)) rfl (by decide) (by decide)]
        rw [own_ok (k := 10) (i := 9) (d := (51 : Int32)) (acc' := (7922337203 : Int64)) rfl (by decide) (by decide)]
        rw [own_ok (k := 9) (i := 10) (d := (54 : Int32)) (acc' := (79223372036 : Int64)) rfl (by decide) (by decide)]
        rw [own_ok (k := 8) (i := 11) (d := (56 : Int32)) (acc' := (792233720368 : Int64)) rfl (by decide) (by decide)]
        rw [own_ok (k := 7) (i := 12) (d := (53 : Int32)) (acc' := (7922337203685 : Int64)) rfl (by decide) (by decide)]
        rw [own_ok (k := 6) (i := 13) (d := (52 : Int32)) (acc' := (79223372036854 : Int64)) rfl (by decide) (by decide)]
        rw [own_ok (k := 5) (i := 14) (d := (55 : Int32)) (acc' := (792233720368547 : Int64)) rfl (by decide) (by decide)]
        rw [own_ok (k := 4) (i := 15) (d := (55 : Int32)) (acc' := (7922337203685477 : Int64)) rfl (by decide) (by decide)]
        rw [own_ok (k := 3) (i := 16) (d := (53 : Int32)) (acc' := (79223372036854775 : Int64)) rfl (by decide) (by decide)]
        rw [own_ok (k := 2) (i := 17) (d := (56 : Int32)) (acc' := (792233720368547758 : Int64)) rfl (by decide) (by decide)]
        exact own_two (by decide) rfl rfl
      · rw [own_ok (k := 19) (i := 0) (d := (56 : Int32)) (acc' := (8 : Int64)) rfl (by decide) (by decide)]
        rw [own_ok (k := 18) (i := 1) (d := (57 : Int32)) (acc' := (89 : Int64)) rfl (by decide) (by decide)]
        rw [own_ok (k := 17) (i := 2) (d := (50 : Int32)) (acc' := (892 : Int64)) rfl (by decide) (by decide)]
        rw [own_ok (k := 16) (i := 3) (d := (50 : Int32)) (acc' := (8922 : Int64)) rfl (by decide) (by decide)]
        rw [own_ok (k := 15) (i := 4) (d := (51 : Int32)) (acc' := (89223 : Int64)) rfl (by decide) (by decide)]
        rw [own_ok (k := 14) (i := 5) (d := (51 : Int32)) (acc' := (892233 : Int64)) rfl (by decide) (by decide)]
        rw [own_ok (k := 13) (i := 6) (d := (55 : Int32)) (acc' := (8922337 : Int64)) rfl (by decide) (by decide)]
        rw [own_ok (k := 12) (i := 7) (d := (50 : Int32)) (acc' := (89223372 : Int64)) rfl (by decide) (by decide)]
        rw [own_ok (k := 11) (i := 8) (d := (48 : Int32)) (acc' := (892233720 : Int64)) rfl (by decide) (by decide)]
        rw [own_ok (k := 10) (i := 9) (d := (51 : Int32)) (acc' := (8922337203 : Int64)) rfl (by decide) (by decide)]
        rw [own_ok (k := 9) (i := 10) (d := (54 : Int32)) (acc' := (89223372036 : Int64)) rfl (by decide) (by decide)]
        rw [own_ok (k := 8) (i := 11) (d := (56 : Int32)) (acc' := (892233720368 : Int64)) rfl (by decide) (by decide)]
        rw [own_ok (k := 7) (i := 12) (d := (53 : Int32)) (acc' := (8922337203685 : Int64)) rfl (by decide) (by decide)]
        rw [own_ok (k := 6) (i := 13) (d := (52 : Int32)) (acc' := (89223372036854 : Int64)) rfl (by decide) (by decide)]
        rw [own_ok (k := 5) (i := 14) (d := (55 : Int32)) (acc' := (892233720368547 : Int64)) rfl (by decide) (by decide)]
        rw [own_ok (k := 4) (i := 15) (d := (55 : Int32)) (acc' := (8922337203685477 : Int64)) rfl (by decide) (by decide)]
        rw [own_ok (k := 3) (i := 16) (d := (53 : Int32)) (acc' := (89223372036854775 : Int64)) rfl (by decide) (by decide)]
        rw [own_ok (k := 2) (i := 17) (d := (56 : Int32)) (acc' := (892233720368547758 : Int64)) rfl (by decide) (by decide)]
        exact own_two (by decide) rfl rfl
      · rw [own_ok (k := 19) (i := 0) (d := (57 : Int32)) (acc' := (9 : Int64)) rfl (by decide) (by decide)]
        rw [own_ok (k := 18) (i := 1) (d := (57 : Int32)) (acc' := (99 : Int64)) rfl (by decide) (by decide)]
        rw [own_ok (k := 17) (i := 2) (d := (50 : Int32)) (acc' := (992 : Int64)) rfl (by decide) (by decide)]
        rw [own_ok (k := 16) (i := 3) (d := (50 : Int32)) (acc' := (9922 : Int64)) rfl (by decide) (by decide)]
        rw [own_ok (k := 15) (i := 4) (d := (51 : Int32)) (acc' := (99223 : Int64)) rfl (by decide) (by decide)]
        rw [own_ok (k := 14) (i := 5) (d := (51 : Int32)) (acc' := (992233 : Int64)) rfl (by decide) (by decide)]
        rw [own_ok (k := 13) (i := 6) (d := (55 : Int32)) (acc' := (9922337 : Int64)) rfl (by decide) (by decide)]
        rw [own_ok (k := 12) (i := 7) (d := (50 : Int32)) (acc' := (99223372 : Int64)) rfl (by decide) (by decide)]
        rw [own_ok (k := 11) (i := 8) (d := (48 : Int32)) (acc' := (992233720 : Int64)) rfl (by decide) (by decide)]
        rw [own_ok (k := 10) (i := 9) (d := (51 : Int32)) (acc' := (9922337203 : Int64)) rfl (by decide) (by decide)]
        rw [own_ok (k := 9) (i := 10) (d := (54 : Int32)) (acc' := (99223372036 : Int64)) rfl (by decide) (by decide)]
        rw [own_ok (k := 8) (i := 11) (d := (56 : Int32)) (acc' := (992233720368 : Int64)) rfl (by decide) (by decide)]
        rw [own_ok (k := 7) (i := 12) (d := (53 : Int32)) (acc' := (9922337203685 : Int64)) rfl (by decide) (by decide)]
        rw [own_ok (k := 6) (i := 13) (d := (52 : Int32)) (acc' := (99223372036854 : Int64)) rfl (by decide) (by decide)]
        rw [own_ok (k := 5) (i := 14) (d := (55 : Int32)) (acc' := (992233720368547 : Int64)) rfl (by decide) (by decide)]
        rw [own_ok (k := 4) (i := 15) (d := (55 : Int32)) (acc' := (9922337203685477 : Int64)) rfl (by decide) (by decide)]
        rw [own_ok (k := 3) (i := 16) (d := (53 : Int32)) (acc' := (99223372036854775 : Int64)) rfl (by decide) (by decide)]
        rw [own_ok (k := 2) (i := 17) (d := (56 : Int32)) (acc' := (992233720368547758 : Int64)) rfl (by decide) (by decide)]
        exact own_no (d := b1) rfl (Or.inr (Or.inr (fun h => h.elim (fun q => absurd q (by decide)) (fun q => absurd q.1 (by decide)))))
theorem own_m4 {b0 b1 b2 : Int32} (h48 : ¬ b0 = (48 : Int32)) : (if (0 : Int32) = (20 : Int32) then (-1 : Int64) else own_pr (own_f [b0, (57 : Int32), (50 : Int32), (50 : Int32), (51 : Int32), (51 : Int32), (55 : Int32), (50 : Int32), (48 : Int32), (51 : Int32), (54 : Int32), (56 : Int32), (53 : Int32), (52 : Int32), (55 : Int32), (55 : Int32), (53 : Int32), (56 : Int32), b1, b2]) ((20 : Int32).toNatClampNeg - (0 : Int32).toNatClampNeg) (0 : Int32).toNatClampNeg (0 : Int64)) = -1 := by
  rw [if_neg (by decide)]
  exact own_m4a h48

def Q_pick (Z : State) (y0 : Int32) (y1 : Int32) (y2 : Int32) (y3 : Int32) (h0 : Heap) (n0 : Nat) (v : Option Value) (h : Heap) (L : List Loc) : Prop := ∃ (r : Int32), v = some (.int r) ∧ Fr n0 L ∧ h = h0 ∧ (r.toInt8.toInt32 = r)
theorem ef_pick (m : MethodId) (x0 : Int32) (x1 : Int32) (x2 : Int32) (x3 : Int32) : entryFrame m #[(.int x0), (.int x1), (.int x2), (.int x3)] 4 = mkF m 0 #[.val (.int x0), .val (.int x1), .val (.int x2), .val (.int x3)] [] := by first | (simp [entryFrame, mkF, argsToLocals, Value.category]; done) | rfl
set_option maxRecDepth 65536 in
set_option maxHeartbeats 40000000 in
theorem rm_pick (l : Launch) (Z : State) (a0 : Array Value) (hw : ∀ d ∈ tables_1, d.before a0 Z = true) (y0 : Int32) (y1 : Int32) (y2 : Int32) (y3 : Int32) (h0 : Heap) (n0 : Nat) (Z0 : n0 ≤ h0.size) :
    Ct l Z (⟨"com/example/ely/ely/probe/UnsignedDecimalParsePinLaw", "pick", "(IIII)B"⟩ : MethodName) method_3_code 4 (some .byte) [] ({ frames := 0, cells := 0, slots := 0, locals := 0 } : Room) #[(.int y0), (.int y1), (.int y2), (.int y3)] h0 (Q_pick Z y0 y1 y2 y3 h0 n0) := by
  refine own_body (plainFor_of_name pn_0) (fun m => ef_pick m y0 y1 y2 y3) ?_
  intro p e s m below meth c T0 hx hby hml hZ hown hnm hret hlk X0 e0
  have N0 := Fr.nil n0
  refine g_iloadN X0 hx (hb hby d_m_3_0) rfl rfl ?_
  refine g_iloadN X0 hx (hb hby d_m_3_1) rfl rfl ?_
  refine g_iushr X0 hx (hb hby d_m_3_2) rfl rfl ?_
  refine g_iconst X0 hx (r := (1 : Int32)) (hb hby d_m_3_3) rfl rfl ?_
  refine g_iand X0 hx (hb hby d_m_3_4) rfl rfl ?_
  by_cases hc5 : (((y0.toUInt32 >>> (y1 &&& 31).toUInt32).toInt32) &&& (1 : Int32)) = (0 : Int32)
  · skip
    refine g_ifY X0 hx (q := 21) (hb hby d_m_3_5) (XT.i0_eq_t hc5) (by decide) (by decide) ?_
    refine g_iloadN X0 hx (hb hby d_m_3_21) rfl rfl ?_
    refine g_bipush X0 hx (r := (8 : Int32)) (hb hby d_m_3_22) rfl rfl ?_
    refine g_iloadN X0 hx (hb hby d_m_3_24) rfl rfl ?_
    refine g_imul X0 hx (hb hby d_m_3_25) rfl rfl ?_
    refine g_iushr X0 hx (hb hby d_m_3_26) rfl rfl ?_
    refine g_i2b X0 hx (hb hby d_m_3_27) rfl rfl ?_
    exact g_retN X0 hx (t := .byte) (r := (((y2.toUInt32 >>> (((8 : Int32) * y1) &&& 31).toUInt32).toInt32).toInt8.toInt32)) hret (by simp) hlk (hb hby d_m_3_28) (own_bb _) (by decide) (by decide) (by rw [e0]; exact ⟨(((y2.toUInt32 >>> (((8 : Int32) * y1) &&& 31).toUInt32).toInt32).toInt8.toInt32), rfl, N0, rfl, (own_bb _)⟩)
  · skip
    refine g_ifN X0 hx (hb hby d_m_3_5) rfl (XT.i0_eq_f hc5) ?_
    refine g_bipush X0 hx (r := (48 : Int32)) (hb hby d_m_3_8) rfl rfl ?_
    refine g_iloadN X0 hx (hb hby d_m_3_10) rfl rfl ?_
    refine g_iconst X0 hx (r := (4 : Int32)) (hb hby d_m_3_11) rfl rfl ?_
    refine g_iloadN X0 hx (hb hby d_m_3_12) rfl rfl ?_
    refine g_imul X0 hx (hb hby d_m_3_13) rfl rfl ?_
    refine g_iushr X0 hx (hb hby d_m_3_14) rfl rfl ?_
    refine g_bipush X0 hx (r := (15 : Int32)) (hb hby d_m_3_15) rfl rfl ?_
    refine g_iand X0 hx (hb hby d_m_3_17) rfl rfl ?_
    refine g_iadd X0 hx (hb hby d_m_3_18) rfl rfl ?_
    refine g_i2b X0 hx (hb hby d_m_3_19) rfl rfl ?_
    exact g_retN X0 hx (t := .byte) (r := (((48 : Int32) + (((y3.toUInt32 >>> (((4 : Int32) * y1) &&& 31).toUInt32).toInt32) &&& (15 : Int32))).toInt8.toInt32)) hret (by simp) hlk (hb hby d_m_3_20) (own_bb _) (by decide) (by decide) (by rw [e0]; exact ⟨(((48 : Int32) + (((y3.toUInt32 >>> (((4 : Int32) * y1) &&& 31).toUInt32).toInt32) &&& (15 : Int32))).toInt8.toInt32), rfl, N0, rfl, (own_bb _)⟩)
def Q_step (Z : State) (acc : Int64) (x : Addr) (ka : ClassId) (z : Int32) (vs : List Value) (i : Int32) (fr : Int32) (to : Int32) (b : Int32) (h0 : Heap) (n0 : Nat) (v : Option Value) (h : Heap) (L : List Loc) : Prop := v = some (.long (own_st acc b i fr to)) ∧ Fr n0 L ∧ h = h0
theorem ef_step (m : MethodId) (x0 : Int64) (x1 : Addr) (x2 : Int32) (x3 : Int32) (x4 : Int32) : entryFrame m #[(.long x0), (.ref x1), (.int x2), (.int x3), (.int x4)] 7 = mkF m 0 #[.val (.long x0), .second, .val (.ref x1), .val (.int x2), .val (.int x3), .val (.int x4), .unset] [] := by first | (simp [entryFrame, mkF, argsToLocals, Value.category]; done) | rfl
set_option maxRecDepth 65536 in
set_option maxHeartbeats 40000000 in
theorem rm_step (l : Launch) (Z : State) (a0 : Array Value) (hw : ∀ d ∈ tables_1, d.before a0 Z = true) (acc : Int64) (x : Addr) (ka : ClassId) (z : Int32) (vs : List Value) (i : Int32) (fr : Int32) (to : Int32) (b : Int32) (h0 : Heap) (n0 : Nat) (Z0 : n0 ≤ h0.size) (V_x : Arv Z h0 x ka .byte z vs (.int (0 : Int32))) (hi0 : ¬ i < (0 : Int32)) (hi1 : i < z) (hvb : vs.getD i.toNatClampNeg (.int (0 : Int32)) = .int b) :
    Ct l Z (⟨"com/example/ely/ely/probe/UnsignedDecimalParsePinLaw", "step", "(J[BIII)J"⟩ : MethodName) method_4_code 7 (some .long) [] ({ frames := 0, cells := 0, slots := 0, locals := 0 } : Room) #[(.long acc), (.ref x), (.int i), (.int fr), (.int to)] h0 (Q_step Z acc x ka z vs i fr to b h0 n0) := by
  refine own_body (plainFor_of_name pn_0) (fun m => ef_step m acc x i fr to) ?_
  intro p e s m below meth c T0 hx hby hml hZ hown hnm hret hlk X0 e0
  have N0 := Fr.nil n0
  refine g_lloadN X0 hx (hb hby d_m_4_0) rfl rfl ?_
  refine g_lconst X0 hx (r := (0 : Int64)) (hb hby d_m_4_1) rfl rfl ?_
  refine g_lcmp X0 hx (hb hby d_m_4_2) rfl  ?_
  by_cases hc3 : acc < (0 : Int64)
  · skip
    refine g_ifN X0 hx (hb hby d_m_4_3) rfl (XT.ll_ge_f hc3) ?_
    refine g_lloadN X0 hx (hb hby d_m_4_6) rfl rfl ?_
    exact g_retJ X0 hx hret hlk (hb hby d_m_4_7) (by decide) (by decide) (by rw [e0]; exact ⟨(by unfold own_st; rw [if_pos hc3]), N0, rfl⟩)
  · skip
    refine g_ifY X0 hx (q := 8) (hb hby d_m_4_3) (XT.ll_ge_t hc3) (by decide) (by decide) ?_
    refine g_iloadN X0 hx (hb hby d_m_4_8) rfl rfl ?_
    refine g_iload X0 hx (hb hby d_m_4_9) rfl rfl ?_
    by_cases hc11 : i < fr
    · skip
      refine g_icmpY X0 hx (q := 20) (hb hby d_m_4_11) (XT.ii_lt_t hc11) (by decide) (by decide) ?_
      refine g_lloadN X0 hx (hb hby d_m_4_20) rfl rfl ?_
      exact g_retJ X0 hx hret hlk (hb hby d_m_4_21) (by decide) (by decide) (by rw [e0]; exact ⟨(by unfold own_st; rw [if_neg hc3, if_pos hc11]), N0, rfl⟩)
    · skip
      refine g_icmpN X0 hx (hb hby d_m_4_11) rfl (XT.ii_lt_f hc11) ?_
      refine g_iloadN X0 hx (hb hby d_m_4_14) rfl rfl ?_
      refine g_iload X0 hx (hb hby d_m_4_15) rfl rfl ?_
      by_cases hc17 : i < to
      · skip
        refine g_icmpY X0 hx (q := 22) (hb hby d_m_4_17) (XT.ii_lt_t hc17) (by decide) (by decide) ?_
        refine g_aloadN X0 hx (hb hby d_m_4_22) rfl rfl rfl ?_
        refine g_iloadN X0 hx (hb hby d_m_4_23) rfl rfl ?_
        refine g_baload X0 hx hZ e0 V_x (v := (.int b)) ⟨hi0, hi1⟩ hvb (hb hby d_m_4_24) rfl ?_
        refine g_bipush X0 hx (r := (48 : Int32)) (hb hby d_m_4_25) rfl rfl ?_
        refine g_isub X0 hx (hb hby d_m_4_27) rfl rfl ?_
        refine g_istore X0 hx (Ls' := #[.val (.long acc), .second, .val (.ref x), .val (.int i), .val (.int fr), .val (.int to), .val (.int (b - (48 : Int32)))]) (hb hby d_m_4_28) rfl rfl ?_
        refine g_iload X0 hx (hb hby d_m_4_30) rfl rfl ?_
        by_cases hc32 : (b - (48 : Int32)) < (0 : Int32)
        · skip
          refine g_ifY X0 hx (q := 42) (hb hby d_m_4_32) (XT.i0_lt_t hc32) (by decide) (by decide) ?_
          refine g_ldc2 X0 hx hZ hown (hw _ (List.mem_of_getElem? (i := 12) rfl)) (hb hby d_m_4_42) rfl ?_
          exact g_retJ X0 hx hret hlk (hb hby d_m_4_45) (by decide) (by decide) (by rw [e0]; exact ⟨(by unfold own_st; rw [if_neg hc3, if_neg hc11, if_pos hc17, if_pos hc32]), N0, rfl⟩)
        · skip
          refine g_ifN X0 hx (hb hby d_m_4_32) rfl (XT.i0_lt_f hc32) ?_
          refine g_iload X0 hx (hb hby d_m_4_35) rfl rfl ?_
          refine g_bipush X0 hx (r := (9 : Int32)) (hb hby d_m_4_37) rfl rfl ?_
          by_cases hc39 : (9 : Int32) < (b - (48 : Int32))
          · skip
            refine g_icmpN X0 hx (hb hby d_m_4_39) rfl (XT.ii_le_f hc39) ?_
            refine g_ldc2 X0 hx hZ hown (hw _ (List.mem_of_getElem? (i := 12) rfl)) (hb hby d_m_4_42) rfl ?_
            exact g_retJ X0 hx hret hlk (hb hby d_m_4_45) (by decide) (by decide) (by rw [e0]; exact ⟨(by unfold own_st; rw [if_neg hc3, if_neg hc11, if_pos hc17, if_neg hc32, if_pos hc39]), N0, rfl⟩)
          · skip
            refine g_icmpY X0 hx (q := 46) (hb hby d_m_4_39) (XT.ii_le_t hc39) (by decide) (by decide) ?_
            refine g_lloadN X0 hx (hb hby d_m_4_46) rfl rfl ?_
            refine g_ldc2 X0 hx hZ hown (hw _ (List.mem_of_getElem? (i := 23) rfl)) (hb hby d_m_4_47) rfl ?_
            refine g_lmul X0 hx (hb hby d_m_4_50) rfl rfl ?_
            refine g_iload X0 hx (hb hby d_m_4_51) rfl rfl ?_
            refine g_i2l X0 hx (hb hby d_m_4_53) rfl rfl ?_
            refine g_ladd X0 hx (hb hby d_m_4_54) rfl rfl ?_
            exact g_retJ X0 hx hret hlk (hb hby d_m_4_55) (by decide) (by decide) (by rw [e0]; exact ⟨(by unfold own_st; rw [if_neg hc3, if_neg hc11, if_pos hc17, if_neg hc32, if_neg hc39]), N0, rfl⟩)
      · skip
        refine g_icmpN X0 hx (hb hby d_m_4_17) rfl (XT.ii_lt_f hc17) ?_
        refine g_lloadN X0 hx (hb hby d_m_4_20) rfl rfl ?_
        exact g_retJ X0 hx hret hlk (hb hby d_m_4_21) (by decide) (by decide) (by rw [e0]; exact ⟨(by unfold own_st; rw [if_neg hc3, if_neg hc11, if_neg hc17]), N0, rfl⟩)
def Q_parse (Z : State) (a : Addr) (ka : ClassId) (z : Int32) (vs : List Value) (fr : Int32) (to : Int32) (f : Nat → Int32) (h0 : Heap) (n0 : Nat) (v : Option Value) (h : Heap) (L : List Loc) : Prop := v = some (.long (if fr = to then (-1 : Int64) else own_pr f (to.toNatClampNeg - fr.toNatClampNeg) fr.toNatClampNeg (0 : Int64))) ∧ Fr n0 L ∧ h = h0
theorem ef_parse (m : MethodId) (x0 : Addr) (x1 : Int32) (x2 : Int32) : entryFrame m #[(.ref x0), (.int x1), (.int x2)] 8 = mkF m 0 #[.val (.ref x0), .val (.int x1), .val (.int x2), .unset, .unset, .unset, .unset, .unset] [] := by first | (simp [entryFrame, mkF, argsToLocals, Value.category]; done) | rfl
set_option maxRecDepth 65536 in
set_option maxHeartbeats 40000000 in
theorem rm_parse (l : Launch) (Z : State) (a0 : Array Value) (hw : ∀ d ∈ tables_1, d.before a0 Z = true) (a : Addr) (ka : ClassId) (z : Int32) (vs : List Value) (fr : Int32) (to : Int32) (f : Nat → Int32) (h0 : Heap) (n0 : Nat) (Z0 : n0 ≤ h0.size) (V_a : Arv Z h0 a ka .byte z vs (.int (0 : Int32))) (hf0 : ¬ fr < (0 : Int32)) (hle : ¬ to < fr) (htz : ¬ z < to) (hvs : ∀ i : Nat, vs.getD i (.int (0 : Int32)) = .int (f i)) :
    Ct l Z (⟨"com/example/ely/ely/probe/UnsignedDecimal", "parse", "([BII)J"⟩ : MethodName) prog_69_method_3_code 8 (some .long) [] ({ frames := 0, cells := 0, slots := 0, locals := 0 } : Room) #[(.ref a), (.int fr), (.int to)] h0 (Q_parse Z a ka z vs fr to f h0 n0) := by
  refine own_body (plainFor_of_name pn_1) (fun m => ef_parse m a fr to) ?_
  intro p e s m below meth c T0 hx hby hml hZ hown hnm hret hlk X0 e0
  have N0 := Fr.nil n0
  refine g_iloadN X0 hx (hb hby d_prog_69_m_3_0) rfl rfl ?_
  refine g_iloadN X0 hx (hb hby d_prog_69_m_3_1) rfl rfl ?_
  by_cases hc2 : fr = to
  · skip
    refine g_icmpN X0 hx (hb hby d_prog_69_m_3_2) rfl (XT.ii_ne_f hc2) ?_
    refine g_ldc2 X0 hx hZ hown (hw _ (List.mem_of_getElem? (i := 20) rfl)) (hb hby d_prog_69_m_3_5) rfl ?_
    exact g_retJ X0 hx hret hlk (hb hby d_prog_69_m_3_8) (by decide) (by decide) (by rw [e0]; exact ⟨(by rw [if_pos hc2]), N0, rfl⟩)
  · skip
    refine g_icmpY X0 hx (q := 9) (hb hby d_prog_69_m_3_2) (XT.ii_ne_t hc2) (by decide) (by decide) ?_
    refine g_lconst X0 hx (r := (0 : Int64)) (hb hby d_prog_69_m_3_9) rfl rfl ?_
    refine g_lstoreN X0 hx (Ls' := #[.val (.ref a), .val (.int fr), .val (.int to), .val (.long (0 : Int64)), .second, .unset, .unset, .unset]) (hb hby d_prog_69_m_3_10) rfl rfl ?_
    refine g_iloadN X0 hx (hb hby d_prog_69_m_3_11) rfl rfl ?_
    refine g_istore X0 hx (Ls' := #[.val (.ref a), .val (.int fr), .val (.int to), .val (.long (0 : Int64)), .second, .val (.int fr), .unset, .unset]) (hb hby d_prog_69_m_3_12) rfl rfl ?_
    obtain ⟨RR, hRR⟩ : ∃ r, own_pr f (to.toNatClampNeg - fr.toNatClampNeg) fr.toNatClampNeg (0 : Int64) = r := ⟨_, rfl⟩
    have loop : ∀ (k : Nat) (i : Int32) (acc : Int64) (s6 s7 : Slot), One s6 → One s7 → ¬ i < (0 : Int32) → i.toInt + (k : Int) = to.toInt → own_pr f k i.toNatClampNeg acc = RR → Ga p e below s (Q_parse Z a ka z vs fr to f h0 n0) ({ frames := 0, cells := 0, slots := 0, locals := 0 } : Room).cells ({ frames := 0, cells := 0, slots := 0, locals := 0 } : Room).slots T0 m 14 #[.val (.ref a), .val (.int fr), .val (.int to), .val (.long acc), .second, .val (.int i), s6, s7] [] := by
      intro k
      induction k with
      | zero =>
        intro i acc s6 s7 o6 o7 hi hk hR
        refine g_iload X0 hx (hb hby d_prog_69_m_3_14) rfl rfl ?_
        refine g_iloadN X0 hx (hb hby d_prog_69_m_3_16) rfl rfl ?_
        have hc17 : ¬ i < to := own_ltzero hi hk
        refine g_icmpY X0 hx (q := 99) (hb hby d_prog_69_m_3_17) (XT.ii_ge_t hc17) (by decide) (by decide) ?_
        refine g_lloadN X0 hx (hb hby d_prog_69_m_3_99) rfl rfl ?_
        exact g_retJ X0 hx hret hlk (hb hby d_prog_69_m_3_100) (by decide) (by decide) (by rw [e0]; exact ⟨(by rw [if_neg hc2, hRR, ← hR]; rfl), N0, rfl⟩)
      | succ k ih =>
        intro i acc s6 s7 o6 o7 hi hk hR
        refine g_iload X0 hx (hb hby d_prog_69_m_3_14) rfl rfl ?_
        refine g_iloadN X0 hx (hb hby d_prog_69_m_3_16) rfl rfl ?_
        have hc17 : i < to := own_ltsucc hi hk
        refine g_icmpN X0 hx (hb hby d_prog_69_m_3_17) rfl (XT.ii_ge_f hc17) ?_
        refine g_aloadN X0 hx (hb hby d_prog_69_m_3_20) rfl rfl rfl ?_
        refine g_iload X0 hx (hb hby d_prog_69_m_3_21) rfl rfl ?_
        refine g_baload X0 hx hZ e0 V_a (v := (.int (f i.toNatClampNeg))) (own_in hi hc17 htz) (hvs _) (hb hby d_prog_69_m_3_23) rfl ?_
        refine g_bipush X0 hx (r := (48 : Int32)) (hb hby d_prog_69_m_3_24) rfl rfl ?_
        refine g_isub X0 hx (hb hby d_prog_69_m_3_26) rfl rfl ?_
        refine g_istore X0 hx (Ls' := #[.val (.ref a), .val (.int fr), .val (.int to), .val (.long acc), .second, .val (.int i), .val (.int ((f i.toNatClampNeg) - (48 : Int32))), s7]) (hb hby d_prog_69_m_3_27) rfl (XS.store1 (o := s6) rfl o6 rfl) ?_
        refine g_lloadN X0 hx (hb hby d_prog_69_m_3_29) rfl rfl ?_
        refine g_ldc2 X0 hx hZ hown (hw _ (List.mem_of_getElem? (i := 21) rfl)) (hb hby d_prog_69_m_3_30) rfl ?_
        refine g_lcmp X0 hx (hb hby d_prog_69_m_3_33) rfl  ?_
        by_cases hc34 : acc < (922337203685477580 : Int64)
        · skip
          refine g_ifY X0 hx (q := 55) (hb hby d_prog_69_m_3_34) (XT.ll_lt_t hc34) (by decide) (by decide) ?_
          refine g_iconst X0 hx (r := (1 : Int32)) (hb hby d_prog_69_m_3_55) rfl rfl ?_
          refine g_goto X0 hx (q := 60) (hb hby d_prog_69_m_3_56) (by decide) (by decide) ?_
          refine g_istore X0 hx (Ls' := #[.val (.ref a), .val (.int fr), .val (.int to), .val (.long acc), .second, .val (.int i), .val (.int ((f i.toNatClampNeg) - (48 : Int32))), .val (.int (1 : Int32))]) (hb hby d_prog_69_m_3_60) rfl (XS.store1 (o := s7) rfl o7 rfl) ?_
          refine g_iload X0 hx (hb hby d_prog_69_m_3_62) rfl rfl ?_
          by_cases hc64 : ((f i.toNatClampNeg) - (48 : Int32)) < (0 : Int32)
          · skip
            refine g_ifY X0 hx (q := 79) (hb hby d_prog_69_m_3_64) (XT.i0_lt_t hc64) (by decide) (by decide) ?_
            refine g_ldc2 X0 hx hZ hown (hw _ (List.mem_of_getElem? (i := 20) rfl)) (hb hby d_prog_69_m_3_79) rfl ?_
            exact g_retJ X0 hx hret hlk (hb hby d_prog_69_m_3_82) (by decide) (by decide) (by rw [e0]; exact ⟨(by rw [if_neg hc2, hRR, ← hR, own_no rfl (Or.inl hc64)]), N0, rfl⟩)
          · skip
            refine g_ifN X0 hx (hb hby d_prog_69_m_3_64) rfl (XT.i0_lt_f hc64) ?_
            refine g_iload X0 hx (hb hby d_prog_69_m_3_67) rfl rfl ?_
            refine g_bipush X0 hx (r := (9 : Int32)) (hb hby d_prog_69_m_3_69) rfl rfl ?_
            by_cases hc71 : (9 : Int32) < ((f i.toNatClampNeg) - (48 : Int32))
            · skip
              refine g_icmpY X0 hx (q := 79) (hb hby d_prog_69_m_3_71) (XT.ii_gt_t hc71) (by decide) (by decide) ?_
              refine g_ldc2 X0 hx hZ hown (hw _ (List.mem_of_getElem? (i := 20) rfl)) (hb hby d_prog_69_m_3_79) rfl ?_
              exact g_retJ X0 hx hret hlk (hb hby d_prog_69_m_3_82) (by decide) (by decide) (by rw [e0]; exact ⟨(by rw [if_neg hc2, hRR, ← hR, own_no rfl (Or.inr (Or.inl hc71))]), N0, rfl⟩)
            · skip
              refine g_icmpN X0 hx (hb hby d_prog_69_m_3_71) rfl (XT.ii_gt_f hc71) ?_
              refine g_iload X0 hx (hb hby d_prog_69_m_3_74) rfl rfl ?_
              refine g_ifY X0 hx (q := 83) (hb hby d_prog_69_m_3_76) (XT.i0_ne_t (by decide : ¬ (1 : Int32) = (0 : Int32))) (by decide) (by decide) ?_
              refine g_lloadN X0 hx (hb hby d_prog_69_m_3_83) rfl rfl ?_
              refine g_ldc2 X0 hx hZ hown (hw _ (List.mem_of_getElem? (i := 22) rfl)) (hb hby d_prog_69_m_3_84) rfl ?_
              refine g_lmul X0 hx (hb hby d_prog_69_m_3_87) rfl rfl ?_
              refine g_iload X0 hx (hb hby d_prog_69_m_3_88) rfl rfl ?_
              refine g_i2l X0 hx (hb hby d_prog_69_m_3_90) rfl rfl ?_
              refine g_ladd X0 hx (hb hby d_prog_69_m_3_91) rfl rfl ?_
              refine g_lstoreN X0 hx (Ls' := #[.val (.ref a), .val (.int fr), .val (.int to), .val (.long ((acc * (10 : Int64)) + (((f i.toNatClampNeg) - (48 : Int32)).toInt64))), .second, .val (.int i), .val (.int ((f i.toNatClampNeg) - (48 : Int32))), .val (.int (1 : Int32))]) (hb hby d_prog_69_m_3_92) rfl rfl ?_
              refine g_iinc X0 hx (r := (i + (1 : Int32))) (Ls' := #[.val (.ref a), .val (.int fr), .val (.int to), .val (.long ((acc * (10 : Int64)) + (((f i.toNatClampNeg) - (48 : Int32)).toInt64))), .second, .val (.int (i + (1 : Int32))), .val (.int ((f i.toNatClampNeg) - (48 : Int32))), .val (.int (1 : Int32))]) (hb hby d_prog_69_m_3_93) rfl rfl rfl rfl ?_
              refine g_goto X0 hx (q := 14) (hb hby d_prog_69_m_3_96) (by decide) (by decide) ?_
              have hn := own_nat1 hi hk
              refine ih _ _ _ _ (One.val rfl) (One.val rfl) hn.1 hn.2.1 ?_
              rw [hn.2.2]
              exact (own_ok rfl (fun h => h.elim hc64 (fun h => h.elim hc71 (fun h => h (Or.inl hc34)))) rfl).symm.trans hR
        · skip
          refine g_ifN X0 hx (hb hby d_prog_69_m_3_34) rfl (XT.ll_lt_f hc34) ?_
          refine g_lloadN X0 hx (hb hby d_prog_69_m_3_37) rfl rfl ?_
          refine g_ldc2 X0 hx hZ hown (hw _ (List.mem_of_getElem? (i := 21) rfl)) (hb hby d_prog_69_m_3_38) rfl ?_
          refine g_lcmp X0 hx (hb hby d_prog_69_m_3_41) rfl  ?_
          by_cases hc42 : acc = (922337203685477580 : Int64)
          · skip
            refine g_ifN X0 hx (hb hby d_prog_69_m_3_42) rfl (XT.ll_ne_f hc42) ?_
            refine g_iload X0 hx (hb hby d_prog_69_m_3_45) rfl rfl ?_
            refine g_i2l X0 hx (hb hby d_prog_69_m_3_47) rfl rfl ?_
            refine g_ldc2 X0 hx hZ hown (hw _ (List.mem_of_getElem? (i := 25) rfl)) (hb hby d_prog_69_m_3_48) rfl ?_
            refine g_lcmp X0 hx (hb hby d_prog_69_m_3_51) rfl  ?_
            by_cases hc52 : (7 : Int64) < (((f i.toNatClampNeg) - (48 : Int32)).toInt64)
            · skip
              refine g_ifY X0 hx (q := 59) (hb hby d_prog_69_m_3_52) (XT.ll_gt_t hc52) (by decide) (by decide) ?_
              refine g_iconst X0 hx (r := (0 : Int32)) (hb hby d_prog_69_m_3_59) rfl rfl ?_
              refine g_istore X0 hx (Ls' := #[.val (.ref a), .val (.int fr), .val (.int to), .val (.long acc), .second, .val (.int i), .val (.int ((f i.toNatClampNeg) - (48 : Int32))), .val (.int (0 : Int32))]) (hb hby d_prog_69_m_3_60) rfl (XS.store1 (o := s7) rfl o7 rfl) ?_
              refine g_iload X0 hx (hb hby d_prog_69_m_3_62) rfl rfl ?_
              by_cases hc64 : ((f i.toNatClampNeg) - (48 : Int32)) < (0 : Int32)
              · skip
                refine g_ifY X0 hx (q := 79) (hb hby d_prog_69_m_3_64) (XT.i0_lt_t hc64) (by decide) (by decide) ?_
                refine g_ldc2 X0 hx hZ hown (hw _ (List.mem_of_getElem? (i := 20) rfl)) (hb hby d_prog_69_m_3_79) rfl ?_
                exact g_retJ X0 hx hret hlk (hb hby d_prog_69_m_3_82) (by decide) (by decide) (by rw [e0]; exact ⟨(by rw [if_neg hc2, hRR, ← hR, own_no rfl (Or.inl hc64)]), N0, rfl⟩)
              · skip
                refine g_ifN X0 hx (hb hby d_prog_69_m_3_64) rfl (XT.i0_lt_f hc64) ?_
                refine g_iload X0 hx (hb hby d_prog_69_m_3_67) rfl rfl ?_
                refine g_bipush X0 hx (r := (9 : Int32)) (hb hby d_prog_69_m_3_69) rfl rfl ?_
                by_cases hc71 : (9 : Int32) < ((f i.toNatClampNeg) - (48 : Int32))
                · skip
                  refine g_icmpY X0 hx (q := 79) (hb hby d_prog_69_m_3_71) (XT.ii_gt_t hc71) (by decide) (by decide) ?_
                  refine g_ldc2 X0 hx hZ hown (hw _ (List.mem_of_getElem? (i := 20) rfl)) (hb hby d_prog_69_m_3_79) rfl ?_
                  exact g_retJ X0 hx hret hlk (hb hby d_prog_69_m_3_82) (by decide) (by decide) (by rw [e0]; exact ⟨(by rw [if_neg hc2, hRR, ← hR, own_no rfl (Or.inr (Or.inl hc71))]), N0, rfl⟩)
                · skip
                  refine g_icmpN X0 hx (hb hby d_prog_69_m_3_71) rfl (XT.ii_gt_f hc71) ?_
                  refine g_iload X0 hx (hb hby d_prog_69_m_3_74) rfl rfl ?_
                  refine g_ifN X0 hx (hb hby d_prog_69_m_3_76) rfl (XT.i0_ne_f (by decide : (0 : Int32) = (0 : Int32))) ?_
                  refine g_ldc2 X0 hx hZ hown (hw _ (List.mem_of_getElem? (i := 20) rfl)) (hb hby d_prog_69_m_3_79) rfl ?_
                  exact g_retJ X0 hx hret hlk (hb hby d_prog_69_m_3_82) (by decide) (by decide) (by rw [e0]; exact ⟨(by rw [if_neg hc2, hRR, ← hR, own_no rfl (Or.inr (Or.inr (fun h => h.elim hc34 (fun q => q.2 hc52))))]), N0, rfl⟩)
            · skip
              refine g_ifN X0 hx (hb hby d_prog_69_m_3_52) rfl (XT.ll_gt_f hc52) ?_
              refine g_iconst X0 hx (r := (1 : Int32)) (hb hby d_prog_69_m_3_55) rfl rfl ?_
              refine g_goto X0 hx (q := 60) (hb hby d_prog_69_m_3_56) (by decide) (by decide) ?_
              refine g_istore X0 hx (Ls' := #[.val (.ref a), .val (.int fr), .val (.int to), .val (.long acc), .second, .val (.int i), .val (.int ((f i.toNatClampNeg) - (48 : Int32))), .val (.int (1 : Int32))]) (hb hby d_prog_69_m_3_60) rfl (XS.store1 (o := s7) rfl o7 rfl) ?_
              refine g_iload X0 hx (hb hby d_prog_69_m_3_62) rfl rfl ?_
              by_cases hc64 : ((f i.toNatClampNeg) - (48 : Int32)) < (0 : Int32)
              · skip
                refine g_ifY X0 hx (q := 79) (hb hby d_prog_69_m_3_64) (XT.i0_lt_t hc64) (by decide) (by decide) ?_
                refine g_ldc2 X0 hx hZ hown (hw _ (List.mem_of_getElem? (i := 20) rfl)) (hb hby d_prog_69_m_3_79) rfl ?_
                exact g_retJ X0 hx hret hlk (hb hby d_prog_69_m_3_82) (by decide) (by decide) (by rw [e0]; exact ⟨(by rw [if_neg hc2, hRR, ← hR, own_no rfl (Or.inl hc64)]), N0, rfl⟩)
              · skip
                refine g_ifN X0 hx (hb hby d_prog_69_m_3_64) rfl (XT.i0_lt_f hc64) ?_
                refine g_iload X0 hx (hb hby d_prog_69_m_3_67) rfl rfl ?_
                refine g_bipush X0 hx (r := (9 : Int32)) (hb hby d_prog_69_m_3_69) rfl rfl ?_
                by_cases hc71 : (9 : Int32) < ((f i.toNatClampNeg) - (48 : Int32))
                · skip
                  refine g_icmpY X0 hx (q := 79) (hb hby d_prog_69_m_3_71) (XT.ii_gt_t hc71) (by decide) (by decide) ?_
                  refine g_ldc2 X0 hx hZ hown (hw _ (List.mem_of_getElem? (i := 20) rfl)) (hb hby d_prog_69_m_3_79) rfl ?_
                  exact g_retJ X0 hx hret hlk (hb hby d_prog_69_m_3_82) (by decide) (by decide) (by rw [e0]; exact ⟨(by rw [if_neg hc2, hRR, ← hR, own_no rfl (Or.inr (Or.inl hc71))]), N0, rfl⟩)
                · skip
                  refine g_icmpN X0 hx (hb hby d_prog_69_m_3_71) rfl (XT.ii_gt_f hc71) ?_
                  refine g_iload X0 hx (hb hby d_prog_69_m_3_74) rfl rfl ?_
                  refine g_ifY X0 hx (q := 83) (hb hby d_prog_69_m_3_76) (XT.i0_ne_t (by decide : ¬ (1 : Int32) = (0 : Int32))) (by decide) (by decide) ?_
                  refine g_lloadN X0 hx (hb hby d_prog_69_m_3_83) rfl rfl ?_
                  refine g_ldc2 X0 hx hZ hown (hw _ (List.mem_of_getElem? (i := 22) rfl)) (hb hby d_prog_69_m_3_84) rfl ?_
                  refine g_lmul X0 hx (hb hby d_prog_69_m_3_87) rfl rfl ?_
                  refine g_iload X0 hx (hb hby d_prog_69_m_3_88) rfl rfl ?_
                  refine g_i2l X0 hx (hb hby d_prog_69_m_3_90) rfl rfl ?_
                  refine g_ladd X0 hx (hb hby d_prog_69_m_3_91) rfl rfl ?_
                  refine g_lstoreN X0 hx (Ls' := #[.val (.ref a), .val (.int fr), .val (.int to), .val (.long ((acc * (10 : Int64)) + (((f i.toNatClampNeg) - (48 : Int32)).toInt64))), .second, .val (.int i), .val (.int ((f i.toNatClampNeg) - (48 : Int32))), .val (.int (1 : Int32))]) (hb hby d_prog_69_m_3_92) rfl rfl ?_
                  refine g_iinc X0 hx (r := (i + (1 : Int32))) (Ls' := #[.val (.ref a), .val (.int fr), .val (.int to), .val (.long ((acc * (10 : Int64)) + (((f i.toNatClampNeg) - (48 : Int32)).toInt64))), .second, .val (.int (i + (1 : Int32))), .val (.int ((f i.toNatClampNeg) - (48 : Int32))), .val (.int (1 : Int32))]) (hb hby d_prog_69_m_3_93) rfl rfl rfl rfl ?_
                  refine g_goto X0 hx (q := 14) (hb hby d_prog_69_m_3_96) (by decide) (by decide) ?_
                  have hn := own_nat1 hi hk
                  refine ih _ _ _ _ (One.val rfl) (One.val rfl) hn.1 hn.2.1 ?_
                  rw [hn.2.2]
                  exact (own_ok rfl (fun h => h.elim hc64 (fun h => h.elim hc71 (fun h => h (Or.inr ⟨hc42, hc52⟩)))) rfl).symm.trans hR
          · skip
            refine g_ifY X0 hx (q := 59) (hb hby d_prog_69_m_3_42) (XT.ll_ne_t hc42) (by decide) (by decide) ?_
            refine g_iconst X0 hx (r := (0 : Int32)) (hb hby d_prog_69_m_3_59) rfl rfl ?_
            refine g_istore X0 hx (Ls' := #[.val (.ref a), .val (.int fr), .val (.int to), .val (.long acc), .second, .val (.int i), .val (.int ((f i.toNatClampNeg) - (48 : Int32))), .val (.int (0 : Int32))]) (hb hby d_prog_69_m_3_60) rfl (XS.store1 (o := s7) rfl o7 rfl) ?_
            refine g_iload X0 hx (hb hby d_prog_69_m_3_62) rfl rfl ?_
            by_cases hc64 : ((f i.toNatClampNeg) - (48 : Int32)) < (0 : Int32)
            · skip
              refine g_ifY X0 hx (q := 79) (hb hby d_prog_69_m_3_64) (XT.i0_lt_t hc64) (by decide) (by decide) ?_
              refine g_ldc2 X0 hx hZ hown (hw _ (List.mem_of_getElem? (i := 20) rfl)) (hb hby d_prog_69_m_3_79) rfl ?_
              exact g_retJ X0 hx hret hlk (hb hby d_prog_69_m_3_82) (by decide) (by decide) (by rw [e0]; exact ⟨(by rw [if_neg hc2, hRR, ← hR, own_no rfl (Or.inl hc64)]), N0, rfl⟩)
            · skip
              refine g_ifN X0 hx (hb hby d_prog_69_m_3_64) rfl (XT.i0_lt_f hc64) ?_
              refine g_iload X0 hx (hb hby d_prog_69_m_3_67) rfl rfl ?_
              refine g_bipush X0 hx (r := (9 : Int32)) (hb hby d_prog_69_m_3_69) rfl rfl ?_
              by_cases hc71 : (9 : Int32) < ((f i.toNatClampNeg) - (48 : Int32))
              · skip
                refine g_icmpY X0 hx (q := 79) (hb hby d_prog_69_m_3_71) (XT.ii_gt_t hc71) (by decide) (by decide) ?_
                refine g_ldc2 X0 hx hZ hown (hw _ (List.mem_of_getElem? (i := 20) rfl)) (hb hby d_prog_69_m_3_79) rfl ?_
                exact g_retJ X0 hx hret hlk (hb hby d_prog_69_m_3_82) (by decide) (by decide) (by rw [e0]; exact ⟨(by rw [if_neg hc2, hRR, ← hR, own_no rfl (Or.inr (Or.inl hc71))]), N0, rfl⟩)
              · skip
                refine g_icmpN X0 hx (hb hby d_prog_69_m_3_71) rfl (XT.ii_gt_f hc71) ?_
                refine g_iload X0 hx (hb hby d_prog_69_m_3_74) rfl rfl ?_
                refine g_ifN X0 hx (hb hby d_prog_69_m_3_76) rfl (XT.i0_ne_f (by decide : (0 : Int32) = (0 : Int32))) ?_
                refine g_ldc2 X0 hx hZ hown (hw _ (List.mem_of_getElem? (i := 20) rfl)) (hb hby d_prog_69_m_3_79) rfl ?_
                exact g_retJ X0 hx hret hlk (hb hby d_prog_69_m_3_82) (by decide) (by decide) (by rw [e0]; exact ⟨(by rw [if_neg hc2, hRR, ← hR, own_no rfl (Or.inr (Or.inr (fun h => h.elim hc34 (fun q => hc42 q.1))))]), N0, rfl⟩)
    exact loop _ _ _ _ _ One.u One.u hf0 (own_gap hf0 hle) hRR
def Q_mmin (Z : State) (x : Int32) (y : Int32) (h0 : Heap) (n0 : Nat) (v : Option Value) (h : Heap) (L : List Loc) : Prop := v = some (.int (if y < x then y else x)) ∧ Fr n0 L ∧ h = h0
theorem ef_mmin (m : MethodId) (x0 : Int32) (x1 : Int32) : entryFrame m #[(.int x0), (.int x1)] 2 = mkF m 0 #[.val (.int x0), .val (.int x1)] [] := by first | (simp [entryFrame, mkF, argsToLocals, Value.category]; done) | rfl
set_option maxRecDepth 65536 in
set_option maxHeartbeats 40000000 in
theorem rm_mmin (l : Launch) (Z : State) (a0 : Array Value) (hw : ∀ d ∈ tables_1, d.before a0 Z = true) (x : Int32) (y : Int32) (h0 : Heap) (n0 : Nat) (Z0 : n0 ≤ h0.size) :
    Ct l Z (⟨"java/lang/Math", "min", "(II)I"⟩ : MethodName) jdk_29_method_69_code 2 (some .int) [] ({ frames := 0, cells := 0, slots := 0, locals := 0 } : Room) #[(.int x), (.int y)] h0 (Q_mmin Z x y h0 n0) := by
  refine own_body (Jvm.Free.JP.mathPlain rfl (by decide +kernel)) (fun m => ef_mmin m x y) ?_
  intro p e s m below meth c T0 hx hby hml hZ hown hnm hret hlk X0 e0
  have N0 := Fr.nil n0
  refine g_iloadN X0 hx (hb hby d_jdk_29_m_69_0) rfl rfl ?_
  refine g_iloadN X0 hx (hb hby d_jdk_29_m_69_1) rfl rfl ?_
  by_cases hc2 : y < x
  · skip
    refine g_icmpY X0 hx (q := 9) (hb hby d_jdk_29_m_69_2) (XT.ii_gt_t hc2) (by decide) (by decide) ?_
    refine g_iloadN X0 hx (hb hby d_jdk_29_m_69_9) rfl rfl ?_
    exact g_retI X0 hx hret hlk (hb hby d_jdk_29_m_69_10) (by decide) (by decide) (by rw [e0]; exact ⟨(by simp [hc2]), N0, rfl⟩)
  · skip
    refine g_icmpN X0 hx (hb hby d_jdk_29_m_69_2) rfl (XT.ii_gt_f hc2) ?_
    refine g_iloadN X0 hx (hb hby d_jdk_29_m_69_5) rfl rfl ?_
    refine g_goto X0 hx (q := 10) (hb hby d_jdk_29_m_69_6) (by decide) (by decide) ?_
    exact g_retI X0 hx hret hlk (hb hby d_jdk_29_m_69_10) (by decide) (by decide) (by rw [e0]; exact ⟨(by simp [hc2]), N0, rfl⟩)
def Q_mmax (Z : State) (x : Int32) (y : Int32) (h0 : Heap) (n0 : Nat) (v : Option Value) (h : Heap) (L : List Loc) : Prop := v = some (.int (if x < y then y else x)) ∧ Fr n0 L ∧ h = h0
theorem ef_mmax (m : MethodId) (x0 : Int32) (x1 : Int32) : entryFrame m #[(.int x0), (.int x1)] 2 = mkF m 0 #[.val (.int x0), .val (.int x1)] [] := by first | (simp [entryFrame, mkF, argsToLocals, Value.category]; done) | rfl
set_option maxRecDepth 65536 in
set_option maxHeartbeats 40000000 in
theorem rm_mmax (l : Launch) (Z : State) (a0 : Array Value) (hw : ∀ d ∈ tables_1, d.before a0 Z = true) (x : Int32) (y : Int32) (h0 : Heap) (n0 : Nat) (Z0 : n0 ≤ h0.size) :
    Ct l Z (⟨"java/lang/Math", "max", "(II)I"⟩ : MethodName) jdk_29_method_65_code 2 (some .int) [] ({ frames := 0, cells := 0, slots := 0, locals := 0 } : Room) #[(.int x), (.int y)] h0 (Q_mmax Z x y h0 n0) := by
  refine own_body (Jvm.Free.JP.mathPlain rfl (by decide +kernel)) (fun m => ef_mmax m x y) ?_
  intro p e s m below meth c T0 hx hby hml hZ hown hnm hret hlk X0 e0
  have N0 := Fr.nil n0
  refine g_iloadN X0 hx (hb hby d_jdk_29_m_65_0) rfl rfl ?_
  refine g_iloadN X0 hx (hb hby d_jdk_29_m_65_1) rfl rfl ?_
  by_cases hc2 : x < y
  · skip
    refine g_icmpY X0 hx (q := 9) (hb hby d_jdk_29_m_65_2) (XT.ii_lt_t hc2) (by decide) (by decide) ?_
    refine g_iloadN X0 hx (hb hby d_jdk_29_m_65_9) rfl rfl ?_
    exact g_retI X0 hx hret hlk (hb hby d_jdk_29_m_65_10) (by decide) (by decide) (by rw [e0]; exact ⟨(by simp [hc2]), N0, rfl⟩)
  · skip
    refine g_icmpN X0 hx (hb hby d_jdk_29_m_65_2) rfl (XT.ii_lt_f hc2) ?_
    refine g_iloadN X0 hx (hb hby d_jdk_29_m_65_5) rfl rfl ?_
    refine g_goto X0 hx (q := 10) (hb hby d_jdk_29_m_65_6) (by decide) (by decide) ?_
    exact g_retI X0 hx hret hlk (hb hby d_jdk_29_m_65_10) (by decide) (by decide) (by rw [e0]; exact ⟨(by simp [hc2]), N0, rfl⟩)
def Q_law (Z : State) (p0 : Int32) (p1 : Int32) (p2 : Int32) (h0 : Heap) (n0 : Nat) (v : Option Value) (h : Heap) (L : List Loc) : Prop := v = some (.int 1) ∧ Fr n0 L
theorem ef_law (m : MethodId) (x0 : Int32) (x1 : Int32) (x2 : Int32) : entryFrame m #[(.int x0), (.int x1), (.int x2)] maxLocals = mkF m 0 #[.val (.int x0), .val (.int x1), .val (.int x2), .unset, .unset, .unset, .unset, .unset, .unset, .unset, .unset, .unset, .unset, .unset, .unset, .unset] [] := by first | (simp [entryFrame, mkF, argsToLocals, Value.category, maxLocals]; done) | rfl
set_option maxRecDepth 65536 in
set_option maxHeartbeats 40000000 in
theorem rm_law (l : Launch) (Z : State) (a0 : Array Value) (hw : ∀ d ∈ tables_1, d.before a0 Z = true) (ws : List Jvm.Cond) (p0 : Int32) (p1 : Int32) (p2 : Int32) (h0 : Heap) (n0 : Nat) (Z0 : n0 ≤ h0.size) :
    Ct l Z x code maxLocals ret ws room_1 #[(.int p0), (.int p1), (.int p2)] h0 (Q_law Z p0 p1 p2 h0 n0) := by
  refine own_body (plainFor_of_name pn_0) (fun m => ef_law m p0 p1 p2) ?_
  intro p e s m below meth c T0 hx hby hml hZ hown hnm hret hlk X0 e0
  have N0 := Fr.nil n0
  refine g_iloadN X0 hx (hb hby at_0) rfl rfl ?_
  refine g_bipush X0 hx (r := (8 : Int32)) (hb hby at_1) rfl rfl ?_
  obtain ⟨v3, hv3⟩ : ∃ r, ((p0.toUInt32 >>> ((8 : Int32) &&& 31).toUInt32).toInt32) = r := ⟨_, rfl⟩
  refine g_iushr X0 hx (hb hby at_3) rfl hv3 ?_
  refine g_istoreN X0 hx (Ls' := #[.val (.int p0), .val (.int p1), .val (.int p2), .val (.int v3), .unset, .unset, .unset, .unset, .unset, .unset, .unset, .unset, .unset, .unset, .unset, .unset]) (hb hby at_4) rfl rfl ?_
  refine g_iloadN X0 hx (hb hby at_5) rfl rfl ?_
  refine g_iconst X0 hx (r := (0 : Int32)) (hb hby at_6) rfl rfl ?_
  refine g_iloadN X0 hx (hb hby at_7) rfl rfl ?_
  refine g_iloadN X0 hx (hb hby at_8) rfl rfl ?_
  refine g_static X0 hx hZ hown (hw _ (List.mem_of_getElem? (i := 0) rfl)) (hw _ (List.mem_of_getElem? (i := 1) rfl)) (hw _ (List.mem_of_getElem? (i := 2) rfl)) (hw _ (List.mem_of_getElem? (i := 3) rfl)) (by decide) (rm_pick l Z a0 hw v3 (0 : Int32) p1 p2 h0 n0 Z0) (by rw [hml]; rfl) e0 [(.int v3), (.int (0 : Int32)), (.int p1), (.int p2)] rfl rfl (W := 0) (Nat.le_of_eq rfl) (by decide) (by decide) (by decide) (by decide) (lenOf pd_0 rfl) (hb hby at_9) rfl fun v1 T1 L1 X1 hQ1 => ?_
  obtain ⟨r_1, rfl, Nq1, eh1, p1_0⟩ := hQ1
  have N1 := Fr.app N0 Nq1
  have hrb_1 := p1_0
  show Ga _ _ _ _ _ _ _ _ _ _ _ [(.int r_1)]
  refine g_istore X1 hx (Ls' := #[.val (.int p0), .val (.int p1), .val (.int p2), .val (.int v3), .val (.int r_1), .unset, .unset, .unset, .unset, .unset, .unset, .unset, .unset, .unset, .unset, .unset]) (hb hby at_12) rfl rfl ?_
  refine g_iloadN X1 hx (hb hby at_14) rfl rfl ?_
  refine g_iconst X1 hx (r := (1 : Int32)) (hb hby at_15) rfl rfl ?_
  refine g_iloadN X1 hx (hb hby at_16) rfl rfl ?_
  refine g_iloadN X1 hx (hb hby at_17) rfl rfl ?_
  refine g_static X1 hx hZ hown (hw _ (List.mem_of_getElem? (i := 0) rfl)) (hw _ (List.mem_of_getElem? (i := 1) rfl)) (hw _ (List.mem_of_getElem? (i := 2) rfl)) (hw _ (List.mem_of_getElem? (i := 3) rfl)) (by decide) (rm_pick l Z a0 hw v3 (1 : Int32) p1 p2 h0 n0 Z0) (by rw [hml]; rfl) eh1 [(.int v3), (.int (1 : Int32)), (.int p1), (.int p2)] rfl rfl (W := 0) (Nat.le_of_eq rfl) (by decide) (by decide) (by decide) (by decide) (lenOf pd_0 rfl) (hb hby at_18) rfl fun v2 T2 L2 X2 hQ2 => ?_
  obtain ⟨r_2, rfl, Nq2, eh2, p2_0⟩ := hQ2
  have N2 := Fr.app N1 Nq2
  have hrb_2 := p2_0
  show Ga _ _ _ _ _ _ _ _ _ _ _ [(.int r_2)]
  refine g_istore X2 hx (Ls' := #[.val (.int p0), .val (.int p1), .val (.int p2), .val (.int v3), .val (.int r_1), .val (.int r_2), .unset, .unset, .unset, .unset, .unset, .unset, .unset, .unset, .unset, .unset]) (hb hby at_21) rfl rfl ?_
  refine g_iloadN X2 hx (hb hby at_23) rfl rfl ?_
  refine g_iconst X2 hx (r := (2 : Int32)) (hb hby at_24) rfl rfl ?_
  refine g_iloadN X2 hx (hb hby at_25) rfl rfl ?_
  refine g_iloadN X2 hx (hb hby at_26) rfl rfl ?_
  refine g_static X2 hx hZ hown (hw _ (List.mem_of_getElem? (i := 0) rfl)) (hw _ (List.mem_of_getElem? (i := 1) rfl)) (hw _ (List.mem_of_getElem? (i := 2) rfl)) (hw _ (List.mem_of_getElem? (i := 3) rfl)) (by decide) (rm_pick l Z a0 hw v3 (2 : Int32) p1 p2 h0 n0 Z0) (by rw [hml]; rfl) eh2 [(.int v3), (.int (2 : Int32)), (.int p1), (.int p2)] rfl rfl (W := 0) (Nat.le_of_eq rfl) (by decide) (by decide) (by decide) (by decide) (lenOf pd_0 rfl) (hb hby at_27) rfl fun v3 T3 L3 X3 hQ3 => ?_
  obtain ⟨r_3, rfl, Nq3, eh3, p3_0⟩ := hQ3
  have N3 := Fr.app N2 Nq3
  have hrb_3 := p3_0
  show Ga _ _ _ _ _ _ _ _ _ _ _ [(.int r_3)]
  refine g_istore X3 hx (Ls' := #[.val (.int p0), .val (.int p1), .val (.int p2), .val (.int v3), .val (.int r_1), .val (.int r_2), .val (.int r_3), .unset, .unset, .unset, .unset, .unset, .unset, .unset, .unset, .unset]) (hb hby at_30) rfl rfl ?_
  refine g_iloadN X3 hx (hb hby at_32) rfl rfl ?_
  refine g_iconst X3 hx (r := (3 : Int32)) (hb hby at_33) rfl rfl ?_
  refine g_iloadN X3 hx (hb hby at_34) rfl rfl ?_
  refine g_iloadN X3 hx (hb hby at_35) rfl rfl ?_
  refine g_static X3 hx hZ hown (hw _ (List.mem_of_getElem? (i := 0) rfl)) (hw _ (List.mem_of_getElem? (i := 1) rfl)) (hw _ (List.mem_of_getElem? (i := 2) rfl)) (hw _ (List.mem_of_getElem? (i := 3) rfl)) (by decide) (rm_pick l Z a0 hw v3 (3 : Int32) p1 p2 h0 n0 Z0) (by rw [hml]; rfl) eh3 [(.int v3), (.int (3 : Int32)), (.int p1), (.int p2)] rfl rfl (W := 0) (Nat.le_of_eq rfl) (by decide) (by decide) (by decide) (by decide) (lenOf pd_0 rfl) (hb hby at_36) rfl fun v4 T4 L4 X4 hQ4 => ?_
  obtain ⟨r_4, rfl, Nq4, eh4, p4_0⟩ := hQ4
  have N4 := Fr.app N3 Nq4
  have hrb_4 := p4_0
  show Ga _ _ _ _ _ _ _ _ _ _ _ [(.int r_4)]
  refine g_istore X4 hx (Ls' := #[.val (.int p0), .val (.int p1), .val (.int p2), .val (.int v3), .val (.int r_1), .val (.int r_2), .val (.int r_3), .val (.int r_4), .unset, .unset, .unset, .unset, .unset, .unset, .unset, .unset]) (hb hby at_39) rfl rfl ?_
  refine g_iloadN X4 hx (hb hby at_41) rfl rfl ?_
  refine g_iconst X4 hx (r := (3 : Int32)) (hb hby at_42) rfl rfl ?_
  obtain ⟨v43, hv43⟩ : ∃ r, (p0 &&& (3 : Int32)) = r := ⟨_, rfl⟩
  refine g_iand X4 hx (hb hby at_43) rfl hv43 ?_
  refine g_istore X4 hx (Ls' := #[.val (.int p0), .val (.int p1), .val (.int p2), .val (.int v3), .val (.int r_1), .val (.int r_2), .val (.int r_3), .val (.int r_4), .val (.int v43), .unset, .unset, .unset, .unset, .unset, .unset, .unset]) (hb hby at_44) rfl rfl ?_
  refine g_iload X4 hx (hb hby at_46) rfl rfl ?_
  refine g_iconst X4 hx (r := (2 : Int32)) (hb hby at_48) rfl rfl ?_
  by_cases hc49 : v43 < (2 : Int32)
  · skip
    refine g_icmpN X4 hx (hb hby at_49) rfl (XT.ii_ge_f hc49) ?_
    refine g_iconst X4 hx (r := (4 : Int32)) (hb hby at_52) rfl rfl ?_
    refine g_newarray X4 hx hZ (aty := .byte) (hw _ (List.mem_of_getElem? (i := 4) rfl)) eh4 (by decide) 4 (by decide) (by decide) (by decide) (by decide) (ad := "[B") (by decide) (hb hby at_53) rfl fun T5 h5 b5 ka5 X5 e5 q5 E5 A5 V5 => ?_
    have g_b5 : n0 ≤ b5 := Nat.le_trans Z0 (Nat.le_of_eq q5.symm)
    have Z5 : n0 ≤ h5.size := Nat.le_trans Z0 E5.1
    have Vn5 : Arv Z h5 b5 ka5 .byte (4 : Int32) [(.int (0 : Int32)), (.int (0 : Int32)), (.int (0 : Int32)), (.int (0 : Int32))] (.int (0 : Int32)) := V5
    refine g_dup X5 hx (hb hby at_55) rfl rfl ?_
    refine g_iconst X5 hx (r := (0 : Int32)) (hb hby at_56) rfl rfl ?_
    refine g_iload X5 hx (hb hby at_57) rfl rfl ?_
    refine g_bastore X5 hx hZ e5 Vn5 ⟨by decide, by decide⟩ (Nat.le_of_ble_eq_true rfl) (hb hby at_59) rfl fun T6 h6 X6 e6 W6 V6 => ?_
    rw [own_nar, hrb_1] at V6
    have Vn6 : Arv Z h6 b5 ka5 .byte (4 : Int32) [(.int r_1), (.int (0 : Int32)), (.int (0 : Int32)), (.int (0 : Int32))] (.int (0 : Int32)) := V6
    have N6 := Fr.snoc X6 N4 g_b5
    have Z6 : n0 ≤ h6.size := by rw [W6.size]; exact Z5
    refine g_dup X6 hx (hb hby at_60) rfl rfl ?_
    refine g_iconst X6 hx (r := (1 : Int32)) (hb hby at_61) rfl rfl ?_
    refine g_iload X6 hx (hb hby at_62) rfl rfl ?_
    refine g_bastore X6 hx hZ e6 Vn6 ⟨by decide, by decide⟩ (Nat.le_of_ble_eq_true rfl) (hb hby at_64) rfl fun T7 h7 X7 e7 W7 V7 => ?_
    rw [own_nar, hrb_2] at V7
    have Vn7 : Arv Z h7 b5 ka5 .byte (4 : Int32) [(.int r_1), (.int r_2), (.int (0 : Int32)), (.int (0 : Int32))] (.int (0 : Int32)) := V7
    have N7 := Fr.snoc X7 N6 g_b5
    have Z7 : n0 ≤ h7.size := by rw [W7.size]; exact Z6
    refine g_dup X7 hx (hb hby at_65) rfl rfl ?_
    refine g_iconst X7 hx (r := (2 : Int32)) (hb hby at_66) rfl rfl ?_
    refine g_iload X7 hx (hb hby at_67) rfl rfl ?_
    refine g_bastore X7 hx hZ e7 Vn7 ⟨by decide, by decide⟩ (Nat.le_of_ble_eq_true rfl) (hb hby at_69) rfl fun T8 h8 X8 e8 W8 V8 => ?_
    rw [own_nar, hrb_3] at V8
    have Vn8 : Arv Z h8 b5 ka5 .byte (4 : Int32) [(.int r_1), (.int r_2), (.int r_3), (.int (0 : Int32))] (.int (0 : Int32)) := V8
    have N8 := Fr.snoc X8 N7 g_b5
    have Z8 : n0 ≤ h8.size := by rw [W8.size]; exact Z7
    refine g_dup X8 hx (hb hby at_70) rfl rfl ?_
    refine g_iconst X8 hx (r := (3 : Int32)) (hb hby at_71) rfl rfl ?_
    refine g_iload X8 hx (hb hby at_72) rfl rfl ?_
    refine g_bastore X8 hx hZ e8 Vn8 ⟨by decide, by decide⟩ (Nat.le_of_ble_eq_true rfl) (hb hby at_74) rfl fun T9 h9 X9 e9 W9 V9 => ?_
    rw [own_nar, hrb_4] at V9
    have Vn9 : Arv Z h9 b5 ka5 .byte (4 : Int32) [(.int r_1), (.int r_2), (.int r_3), (.int r_4)] (.int (0 : Int32)) := V9
    have N9 := Fr.snoc X9 N8 g_b5
    have Z9 : n0 ≤ h9.size := by rw [W9.size]; exact Z8
    refine g_astore X9 hx (Ls' := #[.val (.int p0), .val (.int p1), .val (.int p2), .val (.int v3), .val (.int r_1), .val (.int r_2), .val (.int r_3), .val (.int r_4), .val (.int v43), .val (.ref b5), .unset, .unset, .unset, .unset, .unset, .unset]) (hb hby at_75) rfl rfl rfl ?_
    refine g_iloadN X9 hx (hb hby at_77) rfl rfl ?_
    refine g_iconst X9 hx (r := (2 : Int32)) (hb hby at_78) rfl rfl ?_
    refine g_iushr X9 hx (hb hby at_79) rfl rfl ?_
    refine g_bipush X9 hx (r := (7 : Int32)) (hb hby at_80) rfl rfl ?_
    refine g_iand X9 hx (hb hby at_82) rfl rfl ?_
    refine g_iconst X9 hx (r := (5 : Int32)) (hb hby at_83) rfl rfl ?_
    obtain ⟨v84, hv84⟩ : ∃ r, ((((p0.toUInt32 >>> ((2 : Int32) &&& 31).toUInt32).toInt32) &&& (7 : Int32)) % (5 : Int32)) = r := ⟨_, rfl⟩
    refine g_irem X9 hx (hb hby at_84) rfl (by decide) hv84 ?_
    refine g_istore X9 hx (Ls' := #[.val (.int p0), .val (.int p1), .val (.int p2), .val (.int v3), .val (.int r_1), .val (.int r_2), .val (.int r_3), .val (.int r_4), .val (.int v43), .val (.ref b5), .val (.int v84), .unset, .unset, .unset, .unset, .unset]) (hb hby at_85) rfl rfl ?_
    refine g_iloadN X9 hx (hb hby at_87) rfl rfl ?_
    refine g_iconst X9 hx (r := (5 : Int32)) (hb hby at_88) rfl rfl ?_
    refine g_iushr X9 hx (hb hby at_89) rfl rfl ?_
    refine g_bipush X9 hx (r := (7 : Int32)) (hb hby at_90) rfl rfl ?_
    refine g_iand X9 hx (hb hby at_92) rfl rfl ?_
    refine g_iconst X9 hx (r := (5 : Int32)) (hb hby at_93) rfl rfl ?_
    obtain ⟨v94, hv94⟩ : ∃ r, ((((p0.toUInt32 >>> ((5 : Int32) &&& 31).toUInt32).toInt32) &&& (7 : Int32)) % (5 : Int32)) = r := ⟨_, rfl⟩
    refine g_irem X9 hx (hb hby at_94) rfl (by decide) hv94 ?_
    refine g_istore X9 hx (Ls' := #[.val (.int p0), .val (.int p1), .val (.int p2), .val (.int v3), .val (.int r_1), .val (.int r_2), .val (.int r_3), .val (.int r_4), .val (.int v43), .val (.ref b5), .val (.int v84), .val (.int v94), .unset, .unset, .unset, .unset]) (hb hby at_95) rfl rfl ?_
    refine g_iload X9 hx (hb hby at_97) rfl rfl ?_
    refine g_iload X9 hx (hb hby at_99) rfl rfl ?_
    refine g_static X9 hx hZ hown (hw _ (List.mem_of_getElem? (i := 5) rfl)) (hw _ (List.mem_of_getElem? (i := 6) rfl)) (hw _ (List.mem_of_getElem? (i := 7) rfl)) (hw _ (List.mem_of_getElem? (i := 8) rfl)) (by decide) (rm_mmin l Z a0 hw v84 v94 h9 n0 Z9) (by rw [hml]; rfl) e9 [(.int v84), (.int v94)] rfl rfl (W := 0) (Nat.le_of_eq rfl) (by decide) (by decide) (by decide) (by decide) (lenOf pd_1 rfl) (hb hby at_101) rfl fun v10 T10 L10 X10 hQ10 => ?_
    obtain ⟨rfl, Nq10, eh10⟩ := hQ10
    have N10 := Fr.app N9 Nq10
    show Ga _ _ _ _ _ _ _ _ _ _ _ [(.int (if v94 < v84 then v94 else v84))]
    generalize hr101 : (if v94 < v84 then v94 else v84) = r101
    refine g_istore X10 hx (Ls' := #[.val (.int p0), .val (.int p1), .val (.int p2), .val (.int v3), .val (.int r_1), .val (.int r_2), .val (.int r_3), .val (.int r_4), .val (.int v43), .val (.ref b5), .val (.int v84), .val (.int v94), .val (.int r101), .unset, .unset, .unset]) (hb hby at_104) rfl rfl ?_
    refine g_iload X10 hx (hb hby at_106) rfl rfl ?_
    refine g_iload X10 hx (hb hby at_108) rfl rfl ?_
    refine g_static X10 hx hZ hown (hw _ (List.mem_of_getElem? (i := 9) rfl)) (hw _ (List.mem_of_getElem? (i := 10) rfl)) (hw _ (List.mem_of_getElem? (i := 7) rfl)) (hw _ (List.mem_of_getElem? (i := 11) rfl)) (by decide) (rm_mmax l Z a0 hw v84 v94 h9 n0 Z9) (by rw [hml]; rfl) eh10 [(.int v84), (.int v94)] rfl rfl (W := 0) (Nat.le_of_eq rfl) (by decide) (by decide) (by decide) (by decide) (lenOf pd_1 rfl) (hb hby at_110) rfl fun v11 T11 L11 X11 hQ11 => ?_
    obtain ⟨rfl, Nq11, eh11⟩ := hQ11
    have N11 := Fr.app N10 Nq11
    show Ga _ _ _ _ _ _ _ _ _ _ _ [(.int (if v84 < v94 then v94 else v84))]
    generalize hr110 : (if v84 < v94 then v94 else v84) = r110
    refine g_istore X11 hx (Ls' := #[.val (.int p0), .val (.int p1), .val (.int p2), .val (.int v3), .val (.int r_1), .val (.int r_2), .val (.int r_3), .val (.int r_4), .val (.int v43), .val (.ref b5), .val (.int v84), .val (.int v94), .val (.int r101), .val (.int r110), .unset, .unset]) (hb hby at_113) rfl rfl ?_
    have hmm := own_mm (own_r5 hv84) (own_r5 hv94) hr101 hr110
    refine g_iload X11 hx (hb hby at_115) rfl rfl ?_
    refine g_iload X11 hx (hb hby at_117) rfl rfl ?_
    by_cases hc119 : r101 = r110
    · skip
      refine g_icmpN X11 hx (hb hby at_119) rfl (XT.ii_ne_f hc119) ?_
      refine g_ldc2 X11 hx hZ hown (hw _ (List.mem_of_getElem? (i := 12) rfl)) (hb hby at_122) rfl ?_
      refine g_goto X11 hx (q := 129) (hb hby at_125) (by decide) (by decide) ?_
      refine g_lstore X11 hx (Ls' := #[.val (.int p0), .val (.int p1), .val (.int p2), .val (.int v3), .val (.int r_1), .val (.int r_2), .val (.int r_3), .val (.int r_4), .val (.int v43), .val (.ref b5), .val (.int v84), .val (.int v94), .val (.int r101), .val (.int r110), .val (.long (-1 : Int64)), .second]) (hb hby at_129) rfl rfl ?_
      refine g_lload X11 hx (hb hby at_131) rfl rfl ?_
      refine g_aload X11 hx (hb hby at_133) rfl rfl rfl ?_
      refine g_iconst X11 hx (r := (0 : Int32)) (hb hby at_135) rfl rfl ?_
      refine g_iload X11 hx (hb hby at_136) rfl rfl ?_
      refine g_iload X11 hx (hb hby at_138) rfl rfl ?_
      refine g_static X11 hx hZ hown (hw _ (List.mem_of_getElem? (i := 13) rfl)) (hw _ (List.mem_of_getElem? (i := 14) rfl)) (hw _ (List.mem_of_getElem? (i := 2) rfl)) (hw _ (List.mem_of_getElem? (i := 15) rfl)) (by decide) (rm_step l Z a0 hw (-1 : Int64) b5 ka5 (4 : Int32) [(.int r_1), (.int r_2), (.int r_3), (.int r_4)] (0 : Int32) r101 r110 r_1 h9 n0 Z9 Vn9 (by decide) (by decide) rfl) (by rw [hml]; rfl) eh11 [(.long (-1 : Int64)), (.ref b5), (.int (0 : Int32)), (.int r101), (.int r110)] rfl rfl (W := 0) (Nat.le_of_eq rfl) (by decide) (by decide) (by decide) (by decide) (lenOf pd_2 rfl) (hb hby at_140) rfl fun v12 T12 L12 X12 hQ12 => ?_
      obtain ⟨rfl, Nq12, eh12⟩ := hQ12
      have N12 := Fr.app N11 Nq12
      show Ga _ _ _ _ _ _ _ _ _ _ _ [(.long (own_st (-1 : Int64) r_1 (0 : Int32) r101 r110))]
      generalize hr140 : (own_st (-1 : Int64) r_1 (0 : Int32) r101 r110) = r140
      refine g_lstore X12 hx (Ls' := #[.val (.int p0), .val (.int p1), .val (.int p2), .val (.int v3), .val (.int r_1), .val (.int r_2), .val (.int r_3), .val (.int r_4), .val (.int v43), .val (.ref b5), .val (.int v84), .val (.int v94), .val (.int r101), .val (.int r110), .val (.long r140), .second]) (hb hby at_143) rfl rfl ?_
      refine g_lload X12 hx (hb hby at_145) rfl rfl ?_
      refine g_aload X12 hx (hb hby at_147) rfl rfl rfl ?_
      refine g_iconst X12 hx (r := (1 : Int32)) (hb hby at_149) rfl rfl ?_
      refine g_iload X12 hx (hb hby at_150) rfl rfl ?_
      refine g_iload X12 hx (hb hby at_152) rfl rfl ?_
      refine g_static X12 hx hZ hown (hw _ (List.mem_of_getElem? (i := 13) rfl)) (hw _ (List.mem_of_getElem? (i := 14) rfl)) (hw _ (List.mem_of_getElem? (i := 2) rfl)) (hw _ (List.mem_of_getElem? (i := 15) rfl)) (by decide) (rm_step l Z a0 hw r140 b5 ka5 (4 : Int32) [(.int r_1), (.int r_2), (.int r_3), (.int r_4)] (1 : Int32) r101 r110 r_2 h9 n0 Z9 Vn9 (by decide) (by decide) rfl) (by rw [hml]; rfl) eh12 [(.long r140), (.ref b5), (.int (1 : Int32)), (.int r101), (.int r110)] rfl rfl (W := 0) (Nat.le_of_eq rfl) (by decide) (by decide) (by decide) (by decide) (lenOf pd_2 rfl) (hb hby at_154) rfl fun v13 T13 L13 X13 hQ13 => ?_
      obtain ⟨rfl, Nq13, eh13⟩ := hQ13
      have N13 := Fr.app N12 Nq13
      show Ga _ _ _ _ _ _ _ _ _ _ _ [(.long (own_st r140 r_2 (1 : Int32) r101 r110))]
      generalize hr154 : (own_st r140 r_2 (1 : Int32) r101 r110) = r154
      refine g_lstore X13 hx (Ls' := #[.val (.int p0), .val (.int p1), .val (.int p2), .val (.int v3), .val (.int r_1), .val (.int r_2), .val (.int r_3), .val (.int r_4), .val (.int v43), .val (.ref b5), .val (.int v84), .val (.int v94), .val (.int r101), .val (.int r110), .val (.long r154), .second]) (hb hby at_157) rfl rfl ?_
      refine g_lload X13 hx (hb hby at_159) rfl rfl ?_
      refine g_aload X13 hx (hb hby at_161) rfl rfl rfl ?_
      refine g_iconst X13 hx (r := (2 : Int32)) (hb hby at_163) rfl rfl ?_
      refine g_iload X13 hx (hb hby at_164) rfl rfl ?_
      refine g_iload X13 hx (hb hby at_166) rfl rfl ?_
      refine g_static X13 hx hZ hown (hw _ (List.mem_of_getElem? (i := 13) rfl)) (hw _ (List.mem_of_getElem? (i := 14) rfl)) (hw _ (List.mem_of_getElem? (i := 2) rfl)) (hw _ (List.mem_of_getElem? (i := 15) rfl)) (by decide) (rm_step l Z a0 hw r154 b5 ka5 (4 : Int32) [(.int r_1), (.int r_2), (.int r_3), (.int r_4)] (2 : Int32) r101 r110 r_3 h9 n0 Z9 Vn9 (by decide) (by decide) rfl) (by rw [hml]; rfl) eh13 [(.long r154), (.ref b5), (.int (2 : Int32)), (.int r101), (.int r110)] rfl rfl (W := 0) (Nat.le_of_eq rfl) (by decide) (by decide) (by decide) (by decide) (lenOf pd_2 rfl) (hb hby at_168) rfl fun v14 T14 L14 X14 hQ14 => ?_
      obtain ⟨rfl, Nq14, eh14⟩ := hQ14
      have N14 := Fr.app N13 Nq14
      show Ga _ _ _ _ _ _ _ _ _ _ _ [(.long (own_st r154 r_3 (2 : Int32) r101 r110))]
      generalize hr168 : (own_st r154 r_3 (2 : Int32) r101 r110) = r168
      refine g_lstore X14 hx (Ls' := #[.val (.int p0), .val (.int p1), .val (.int p2), .val (.int v3), .val (.int r_1), .val (.int r_2), .val (.int r_3), .val (.int r_4), .val (.int v43), .val (.ref b5), .val (.int v84), .val (.int v94), .val (.int r101), .val (.int r110), .val (.long r168), .second]) (hb hby at_171) rfl rfl ?_
      refine g_lload X14 hx (hb hby at_173) rfl rfl ?_
      refine g_aload X14 hx (hb hby at_175) rfl rfl rfl ?_
      refine g_iconst X14 hx (r := (3 : Int32)) (hb hby at_177) rfl rfl ?_
      refine g_iload X14 hx (hb hby at_178) rfl rfl ?_
      refine g_iload X14 hx (hb hby at_180) rfl rfl ?_
      refine g_static X14 hx hZ hown (hw _ (List.mem_of_getElem? (i := 13) rfl)) (hw _ (List.mem_of_getElem? (i := 14) rfl)) (hw _ (List.mem_of_getElem? (i := 2) rfl)) (hw _ (List.mem_of_getElem? (i := 15) rfl)) (by decide) (rm_step l Z a0 hw r168 b5 ka5 (4 : Int32) [(.int r_1), (.int r_2), (.int r_3), (.int r_4)] (3 : Int32) r101 r110 r_4 h9 n0 Z9 Vn9 (by decide) (by decide) rfl) (by rw [hml]; rfl) eh14 [(.long r168), (.ref b5), (.int (3 : Int32)), (.int r101), (.int r110)] rfl rfl (W := 0) (Nat.le_of_eq rfl) (by decide) (by decide) (by decide) (by decide) (lenOf pd_2 rfl) (hb hby at_182) rfl fun v15 T15 L15 X15 hQ15 => ?_
      obtain ⟨rfl, Nq15, eh15⟩ := hQ15
      have N15 := Fr.app N14 Nq15
      show Ga _ _ _ _ _ _ _ _ _ _ _ [(.long (own_st r168 r_4 (3 : Int32) r101 r110))]
      generalize hr182 : (own_st r168 r_4 (3 : Int32) r101 r110) = r182
      refine g_lstore X15 hx (Ls' := #[.val (.int p0), .val (.int p1), .val (.int p2), .val (.int v3), .val (.int r_1), .val (.int r_2), .val (.int r_3), .val (.int r_4), .val (.int v43), .val (.ref b5), .val (.int v84), .val (.int v94), .val (.int r101), .val (.int r110), .val (.long r182), .second]) (hb hby at_185) rfl rfl ?_
      refine g_aload X15 hx (hb hby at_187) rfl rfl rfl ?_
      refine g_iload X15 hx (hb hby at_189) rfl rfl ?_
      refine g_iload X15 hx (hb hby at_191) rfl rfl ?_
      refine g_static X15 hx hZ hown (hw _ (List.mem_of_getElem? (i := 16) rfl)) (hw _ (List.mem_of_getElem? (i := 17) rfl)) (hw _ (List.mem_of_getElem? (i := 18) rfl)) (hw _ (List.mem_of_getElem? (i := 19) rfl)) (by decide) (rm_parse l Z a0 hw b5 ka5 (4 : Int32) [(.int r_1), (.int r_2), (.int r_3), (.int r_4)] r101 r110 (own_f [r_1, r_2, r_3, r_4]) h9 n0 Z9 Vn9 (own_ge0 hmm.1) (own_le hmm.2.1) (own_le (b := (4 : Int32)) hmm.2.2) (own_fv [r_1, r_2, r_3, r_4])) (by rw [hml]; rfl) eh15 [(.ref b5), (.int r101), (.int r110)] rfl rfl (W := 0) (Nat.le_of_eq rfl) (by decide) (by decide) (by decide) (by decide) (lenOf pd_3 rfl) (hb hby at_193) rfl fun v16 T16 L16 X16 hQ16 => ?_
      obtain ⟨rfl, Nq16, eh16⟩ := hQ16
      have N16 := Fr.app N15 Nq16
      show Ga _ _ _ _ _ _ _ _ _ _ _ [(.long (if r101 = r110 then (-1 : Int64) else own_pr (own_f [r_1, r_2, r_3, r_4]) (r110.toNatClampNeg - r101.toNatClampNeg) r101.toNatClampNeg (0 : Int64)))]
      generalize hr193 : (if r101 = r110 then (-1 : Int64) else own_pr (own_f [r_1, r_2, r_3, r_4]) (r110.toNatClampNeg - r101.toNatClampNeg) r101.toNatClampNeg (0 : Int64)) = r193
      refine g_lload X16 hx (hb hby at_196) rfl rfl ?_
      refine g_lcmp X16 hx (hb hby at_198) rfl  ?_
      have hc199 : r193 = r182 := own_fin1 hc119 hr140 hr154 hr168 hr182 hr193
      refine g_ifN X16 hx (hb hby at_199) rfl (XT.ll_ne_f hc199) ?_
      refine g_iconst X16 hx (r := (1 : Int32)) (hb hby at_202) rfl rfl ?_
      refine g_goto X16 hx (q := 207) (hb hby at_203) (by decide) (by decide) ?_
      exact g_retN X16 hx (t := .boolean) (r := (1 : Int32)) hret (by simp) hlk (hb hby at_207) rfl (by decide) (by decide) (by rw [eh16]; exact ⟨rfl, N16⟩)
    · skip
      refine g_icmpY X11 hx (q := 128) (hb hby at_119) (XT.ii_ne_t hc119) (by decide) (by decide) ?_
      refine g_lconst X11 hx (r := (0 : Int64)) (hb hby at_128) rfl rfl ?_
      refine g_lstore X11 hx (Ls' := #[.val (.int p0), .val (.int p1), .val (.int p2), .val (.int v3), .val (.int r_1), .val (.int r_2), .val (.int r_3), .val (.int r_4), .val (.int v43), .val (.ref b5), .val (.int v84), .val (.int v94), .val (.int r101), .val (.int r110), .val (.long (0 : Int64)), .second]) (hb hby at_129) rfl rfl ?_
      refine g_lload X11 hx (hb hby at_131) rfl rfl ?_
      refine g_aload X11 hx (hb hby at_133) rfl rfl rfl ?_
      refine g_iconst X11 hx (r := (0 : Int32)) (hb hby at_135) rfl rfl ?_
      refine g_iload X11 hx (hb hby at_136) rfl rfl ?_
      refine g_iload X11 hx (hb hby at_138) rfl rfl ?_
      refine g_static X11 hx hZ hown (hw _ (List.mem_of_getElem? (i := 13) rfl)) (hw _ (List.mem_of_getElem? (i := 14) rfl)) (hw _ (List.mem_of_getElem? (i := 2) rfl)) (hw _ (List.mem_of_getElem? (i := 15) rfl)) (by decide) (rm_step l Z a0 hw (0 : Int64) b5 ka5 (4 : Int32) [(.int r_1), (.int r_2), (.int r_3), (.int r_4)] (0 : Int32) r101 r110 r_1 h9 n0 Z9 Vn9 (by decide) (by decide) rfl) (by rw [hml]; rfl) eh11 [(.long (0 : Int64)), (.ref b5), (.int (0 : Int32)), (.int r101), (.int r110)] rfl rfl (W := 0) (Nat.le_of_eq rfl) (by decide) (by decide) (by decide) (by decide) (lenOf pd_2 rfl) (hb hby at_140) rfl fun v17 T17 L17 X17 hQ17 => ?_
      obtain ⟨rfl, Nq17, eh17⟩ := hQ17
      have N17 := Fr.app N11 Nq17
      show Ga _ _ _ _ _ _ _ _ _ _ _ [(.long (own_st (0 : Int64) r_1 (0 : Int32) r101 r110))]
      generalize hr140 : (own_st (0 : Int64) r_1 (0 : Int32) r101 r110) = r140
      refine g_lstore X17 hx (Ls' := #[.val (.int p0), .val (.int p1), .val (.int p2), .val (.int v3), .val (.int r_1), .val (.int r_2), .val (.int r_3), .val (.int r_4), .val (.int v43), .val (.ref b5), .val (.int v84), .val (.int v94), .val (.int r101), .val (.int r110), .val (.long r140), .second]) (hb hby at_143) rfl rfl ?_
      refine g_lload X17 hx (hb hby at_145) rfl rfl ?_
      refine g_aload X17 hx (hb hby at_147) rfl rfl rfl ?_
      refine g_iconst X17 hx (r := (1 : Int32)) (hb hby at_149) rfl rfl ?_
      refine g_iload X17 hx (hb hby at_150) rfl rfl ?_
      refine g_iload X17 hx (hb hby at_152) rfl rfl ?_
      refine g_static X17 hx hZ hown (hw _ (List.mem_of_getElem? (i := 13) rfl)) (hw _ (List.mem_of_getElem? (i := 14) rfl)) (hw _ (List.mem_of_getElem? (i := 2) rfl)) (hw _ (List.mem_of_getElem? (i := 15) rfl)) (by decide) (rm_step l Z a0 hw r140 b5 ka5 (4 : Int32) [(.int r_1), (.int r_2), (.int r_3), (.int r_4)] (1 : Int32) r101 r110 r_2 h9 n0 Z9 Vn9 (by decide) (by decide) rfl) (by rw [hml]; rfl) eh17 [(.long r140), (.ref b5), (.int (1 : Int32)), (.int r101), (.int r110)] rfl rfl (W := 0) (Nat.le_of_eq rfl) (by decide) (by decide) (by decide) (by decide) (lenOf pd_2 rfl) (hb hby at_154) rfl fun v18 T18 L18 X18 hQ18 => ?_
      obtain ⟨rfl, Nq18, eh18⟩ := hQ18
      have N18 := Fr.app N17 Nq18
      show Ga _ _ _ _ _ _ _ _ _ _ _ [(.long (own_st r140 r_2 (1 : Int32) r101 r110))]
      generalize hr154 : (own_st r140 r_2 (1 : Int32) r101 r110) = r154
      refine g_lstore X18 hx (Ls' := #[.val (.int p0), .val (.int p1), .val (.int p2), .val (.int v3), .val (.int r_1), .val (.int r_2), .val (.int r_3), .val (.int r_4), .val (.int v43), .val (.ref b5), .val (.int v84), .val (.int v94), .val (.int r101), .val (.int r110), .val (.long r154), .second]) (hb hby at_157) rfl rfl ?_
      refine g_lload X18 hx (hb hby at_159) rfl rfl ?_
      refine g_aload X18 hx (hb hby at_161) rfl rfl rfl ?_
      refine g_iconst X18 hx (r := (2 : Int32)) (hb hby at_163) rfl rfl ?_
      refine g_iload X18 hx (hb hby at_164) rfl rfl ?_
      refine g_iload X18 hx (hb hby at_166) rfl rfl ?_
      refine g_static X18 hx hZ hown (hw _ (List.mem_of_getElem? (i := 13) rfl)) (hw _ (List.mem_of_getElem? (i := 14) rfl)) (hw _ (List.mem_of_getElem? (i := 2) rfl)) (hw _ (List.mem_of_getElem? (i := 15) rfl)) (by decide) (rm_step l Z a0 hw r154 b5 ka5 (4 : Int32) [(.int r_1), (.int r_2), (.int r_3), (.int r_4)] (2 : Int32) r101 r110 r_3 h9 n0 Z9 Vn9 (by decide) (by decide) rfl) (by rw [hml]; rfl) eh18 [(.long r154), (.ref b5), (.int (2 : Int32)), (.int r101), (.int r110)] rfl rfl (W := 0) (Nat.le_of_eq rfl) (by decide) (by decide) (by decide) (by decide) (lenOf pd_2 rfl) (hb hby at_168) rfl fun v19 T19 L19 X19 hQ19 => ?_
      obtain ⟨rfl, Nq19, eh19⟩ := hQ19
      have N19 := Fr.app N18 Nq19
      show Ga _ _ _ _ _ _ _ _ _ _ _ [(.long (own_st r154 r_3 (2 : Int32) r101 r110))]
      generalize hr168 : (own_st r154 r_3 (2 : Int32) r101 r110) = r168
      refine g_lstore X19 hx (Ls' := #[.val (.int p0), .val (.int p1), .val (.int p2), .val (.int v3), .val (.int r_1), .val (.int r_2), .val (.int r_3), .val (.int r_4), .val (.int v43), .val (.ref b5), .val (.int v84), .val (.int v94), .val (.int r101), .val (.int r110), .val (.long r168), .second]) (hb hby at_171) rfl rfl ?_
      refine g_lload X19 hx (hb hby at_173) rfl rfl ?_
      refine g_aload X19 hx (hb hby at_175) rfl rfl rfl ?_
      refine g_iconst X19 hx (r := (3 : Int32)) (hb hby at_177) rfl rfl ?_
      refine g_iload X19 hx (hb hby at_178) rfl rfl ?_
      refine g_iload X19 hx (hb hby at_180) rfl rfl ?_
      refine g_static X19 hx hZ hown (hw _ (List.mem_of_getElem? (i := 13) rfl)) (hw _ (List.mem_of_getElem? (i := 14) rfl)) (hw _ (List.mem_of_getElem? (i := 2) rfl)) (hw _ (List.mem_of_getElem? (i := 15) rfl)) (by decide) (rm_step l Z a0 hw r168 b5 ka5 (4 : Int32) [(.int r_1), (.int r_2), (.int r_3), (.int r_4)] (3 : Int32) r101 r110 r_4 h9 n0 Z9 Vn9 (by decide) (by decide) rfl) (by rw [hml]; rfl) eh19 [(.long r168), (.ref b5), (.int (3 : Int32)), (.int r101), (.int r110)] rfl rfl (W := 0) (Nat.le_of_eq rfl) (by decide) (by decide) (by decide) (by decide) (lenOf pd_2 rfl) (hb hby at_182) rfl fun v20 T20 L20 X20 hQ20 => ?_
      obtain ⟨rfl, Nq20, eh20⟩ := hQ20
      have N20 := Fr.app N19 Nq20
      show Ga _ _ _ _ _ _ _ _ _ _ _ [(.long (own_st r168 r_4 (3 : Int32) r101 r110))]
      generalize hr182 : (own_st r168 r_4 (3 : Int32) r101 r110) = r182
      refine g_lstore X20 hx (Ls' := #[.val (.int p0), .val (.int p1), .val (.int p2), .val (.int v3), .val (.int r_1), .val (.int r_2), .val (.int r_3), .val (.int r_4), .val (.int v43), .val (.ref b5), .val (.int v84), .val (.int v94), .val (.int r101), .val (.int r110), .val (.long r182), .second]) (hb hby at_185) rfl rfl ?_
      refine g_aload X20 hx (hb hby at_187) rfl rfl rfl ?_
      refine g_iload X20 hx (hb hby at_189) rfl rfl ?_
      refine g_iload X20 hx (hb hby at_191) rfl rfl ?_
      refine g_static X20 hx hZ hown (hw _ (List.mem_of_getElem? (i := 16) rfl)) (hw _ (List.mem_of_getElem? (i := 17) rfl)) (hw _ (List.mem_of_getElem? (i := 18) rfl)) (hw _ (List.mem_of_getElem? (i := 19) rfl)) (by decide) (rm_parse l Z a0 hw b5 ka5 (4 : Int32) [(.int r_1), (.int r_2), (.int r_3), (.int r_4)] r101 r110 (own_f [r_1, r_2, r_3, r_4]) h9 n0 Z9 Vn9 (own_ge0 hmm.1) (own_le hmm.2.1) (own_le (b := (4 : Int32)) hmm.2.2) (own_fv [r_1, r_2, r_3, r_4])) (by rw [hml]; rfl) eh20 [(.ref b5), (.int r101), (.int r110)] rfl rfl (W := 0) (Nat.le_of_eq rfl) (by decide) (by decide) (by decide) (by decide) (lenOf pd_3 rfl) (hb hby at_193) rfl fun v21 T21 L21 X21 hQ21 => ?_
      obtain ⟨rfl, Nq21, eh21⟩ := hQ21
      have N21 := Fr.app N20 Nq21
      show Ga _ _ _ _ _ _ _ _ _ _ _ [(.long (if r101 = r110 then (-1 : Int64) else own_pr (own_f [r_1, r_2, r_3, r_4]) (r110.toNatClampNeg - r101.toNatClampNeg) r101.toNatClampNeg (0 : Int64)))]
      generalize hr193 : (if r101 = r110 then (-1 : Int64) else own_pr (own_f [r_1, r_2, r_3, r_4]) (r110.toNatClampNeg - r101.toNatClampNeg) r101.toNatClampNeg (0 : Int64)) = r193
      refine g_lload X21 hx (hb hby at_196) rfl rfl ?_
      refine g_lcmp X21 hx (hb hby at_198) rfl  ?_
      have hc199 : r193 = r182 := own_fin0 hmm.2.2 hmm.1 hmm.2.1 hc119 hr140 hr154 hr168 hr182 hr193
      refine g_ifN X21 hx (hb hby at_199) rfl (XT.ll_ne_f hc199) ?_
      refine g_iconst X21 hx (r := (1 : Int32)) (hb hby at_202) rfl rfl ?_
      refine g_goto X21 hx (q := 207) (hb hby at_203) (by decide) (by decide) ?_
      exact g_retN X21 hx (t := .boolean) (r := (1 : Int32)) hret (by simp) hlk (hb hby at_207) rfl (by decide) (by decide) (by rw [eh21]; exact ⟨rfl, N21⟩)
  · skip
    refine g_icmpY X4 hx (q := 208) (hb hby at_49) (XT.ii_ge_t hc49) (by decide) (by decide) ?_
    refine g_bipush X4 hx (r := (20 : Int32)) (hb hby at_208) rfl rfl ?_
    refine g_newarray X4 hx hZ (aty := .byte) (hw _ (List.mem_of_getElem? (i := 4) rfl)) eh4 (by decide) 20 (by decide) (by decide) (by decide) (by decide) (ad := "[B") (by decide) (hb hby at_210) rfl fun T22 h22 b22 ka22 X22 e22 q22 E22 A22 V22 => ?_
    have g_b22 : n0 ≤ b22 := Nat.le_trans Z0 (Nat.le_of_eq q22.symm)
    have Z22 : n0 ≤ h22.size := Nat.le_trans Z0 E22.1
    have Vn22 : Arv Z h22 b22 ka22 .byte (20 : Int32) [(.int (0 : Int32)), (.int (0 : Int32)), (.int (0 : Int32)), (.int (0 : Int32)), (.int (0 : Int32)), (.int (0 : Int32)), (.int (0 : Int32)), (.int (0 : Int32)), (.int (0 : Int32)), (.int (0 : Int32)), (.int (0 : Int32)), (.int (0 : Int32)), (.int (0 : Int32)), (.int (0 : Int32)), (.int (0 : Int32)), (.int (0 : Int32)), (.int (0 : Int32)), (.int (0 : Int32)), (.int (0 : Int32)), (.int (0 : Int32))] (.int (0 : Int32)) := V22
    refine g_dup X22 hx (hb hby at_212) rfl rfl ?_
    refine g_iconst X22 hx (r := (0 : Int32)) (hb hby at_213) rfl rfl ?_
    refine g_iload X22 hx (hb hby at_214) rfl rfl ?_
    refine g_bastore X22 hx hZ e22 Vn22 ⟨by decide, by decide⟩ (Nat.le_of_ble_eq_true rfl) (hb hby at_216) rfl fun T23 h23 X23 e23 W23 V23 => ?_
    rw [own_nar, hrb_1] at V23
    have Vn23 : Arv Z h23 b22 ka22 .byte (20 : Int32) [(.int r_1), (.int (0 : Int32)), (.int (0 : Int32)), (.int (0 : Int32)), (.int (0 : Int32)), (.int (0 : Int32)), (.int (0 : Int32)), (.int (0 : Int32)), (.int (0 : Int32)), (.int (0 : Int32)), (.int (0 : Int32)), (.int (0 : Int32)), (.int (0 : Int32)), (.int (0 : Int32)), (.int (0 : Int32)), (.int (0 : Int32)), (.int (0 : Int32)), (.int (0 : Int32)), (.int (0 : Int32)), (.int (0 : Int32))] (.int (0 : Int32)) := V23
    have N23 := Fr.snoc X23 N4 g_b22
    have Z23 : n0 ≤ h23.size := by rw [W23.size]; exact Z22
    refine g_dup X23 hx (hb hby at_217) rfl rfl ?_
    refine g_iconst X23 hx (r := (1 : Int32)) (hb hby at_218) rfl rfl ?_
    refine g_bipush X23 hx (r := (57 : Int32)) (hb hby at_219) rfl rfl ?_
    refine g_bastore X23 hx hZ e23 Vn23 ⟨by decide, by decide⟩ (Nat.le_of_ble_eq_true rfl) (hb hby at_221) rfl fun T24 h24 X24 e24 W24 V24 => ?_
    have Vn24 : Arv Z h24 b22 ka22 .byte (20 : Int32) [(.int r_1), (.int (57 : Int32)), (.int (0 : Int32)), (.int (0 : Int32)), (.int (0 : Int32)), (.int (0 : Int32)), (.int (0 : Int32)), (.int (0 : Int32)), (.int (0 : Int32)), (.int (0 : Int32)), (.int (0 : Int32)), (.int (0 : Int32)), (.int (0 : Int32)), (.int (0 : Int32)), (.int (0 : Int32)), (.int (0 : Int32)), (.int (0 : Int32)), (.int (0 : Int32)), (.int (0 : Int32)), (.int (0 : Int32))] (.int (0 : Int32)) := V24
    have N24 := Fr.snoc X24 N23 g_b22
    have Z24 : n0 ≤ h24.size := by rw [W24.size]; exact Z23
    refine g_dup X24 hx (hb hby at_222) rfl rfl ?_
    refine g_iconst X24 hx (r := (2 : Int32)) (hb hby at_223) rfl rfl ?_
    refine g_bipush X24 hx (r := (50 : Int32)) (hb hby at_224) rfl rfl ?_
    refine g_bastore X24 hx hZ e24 Vn24 ⟨by decide, by decide⟩ (Nat.le_of_ble_eq_true rfl) (hb hby at_226) rfl fun T25 h25 X25 e25 W25 V25 => ?_
    have Vn25 : Arv Z h25 b22 ka22 .byte (20 : Int32) [(.int r_1), (.int (57 : Int32)), (.int (50 : Int32)), (.int (0 : Int32)), (.int (0 : Int32)), (.int (0 : Int32)), (.int (0 : Int32)), (.int (0 : Int32)), (.int (0 : Int32)), (.int (0 : Int32)), (.int (0 : Int32)), (.int (0 : Int32)), (.int (0 : Int32)), (.int (0 : Int32)), (.int (0 : Int32)), (.int (0 : Int32)), (.int (0 : Int32)), (.int (0 : Int32)), (.int (0 : Int32)), (.int (0 : Int32))] (.int (0 : Int32)) := V25
    have N25 := Fr.snoc X25 N24 g_b22
    have Z25 : n0 ≤ h25.size := by rw [W25.size]; exact Z24
    refine g_dup X25 hx (hb hby at_227) rfl rfl ?_
    refine g_iconst X25 hx (r := (3 : Int32)) (hb hby at_228) rfl rfl ?_
    refine g_bipush X25 hx (r := (50 : Int32)) (hb hby at_229) rfl rfl ?_
    refine g_bastore X25 hx hZ e25 Vn25 ⟨by decide, by decide⟩ (Nat.le_of_ble_eq_true rfl) (hb hby at_231) rfl fun T26 h26 X26 e26 W26 V26 => ?_
    have Vn26 : Arv Z h26 b22 ka22 .byte (20 : Int32) [(.int r_1), (.int (57 : Int32)), (.int (50 : Int32)), (.int (50 : Int32)), (.int (0 : Int32)), (.int (0 : Int32)), (.int (0 : Int32)), (.int (0 : Int32)), (.int (0 : Int32)), (.int (0 : Int32)), (.int (0 : Int32)), (.int (0 : Int32)), (.int (0 : Int32)), (.int (0 : Int32)), (.int (0 : Int32)), (.int (0 : Int32)), (.int (0 : Int32)), (.int (0 : Int32)), (.int (0 : Int32)), (.int (0 : Int32))] (.int (0 : Int32)) := V26
    have N26 := Fr.snoc X26 N25 g_b22
    have Z26 : n0 ≤ h26.size := by rw [W26.size]; exact Z25
    refine g_dup X26 hx (hb hby at_232) rfl rfl ?_
    refine g_iconst X26 hx (r := (4 : Int32)) (hb hby at_233) rfl rfl ?_
    refine g_bipush X26 hx (r := (51 : Int32)) (hb hby at_234) rfl rfl ?_
    refine g_bastore X26 hx hZ e26 Vn26 ⟨by decide, by decide⟩ (Nat.le_of_ble_eq_true rfl) (hb hby at_236) rfl fun T27 h27 X27 e27 W27 V27 => ?_
    have Vn27 : Arv Z h27 b22 ka22 .byte (20 : Int32) [(.int r_1), (.int (57 : Int32)), (.int (50 : Int32)), (.int (50 : Int32)), (.int (51 : Int32)), (.int (0 : Int32)), (.int (0 : Int32)), (.int (0 : Int32)), (.int (0 : Int32)), (.int (0 : Int32)), (.int (0 : Int32)), (.int (0 : Int32)), (.int (0 : Int32)), (.int (0 : Int32)), (.int (0 : Int32)), (.int (0 : Int32)), (.int (0 : Int32)), (.int (0 : Int32)), (.int (0 : Int32)), (.int (0 : Int32))] (.int (0 : Int32)) := V27
    have N27 := Fr.snoc X27 N26 g_b22
    have Z27 : n0 ≤ h27.size := by rw [W27.size]; exact Z26
    refine g_dup X27 hx (hb hby at_237) rfl rfl ?_
    refine g_iconst X27 hx (r := (5 : Int32)) (hb hby at_238) rfl rfl ?_
    refine g_bipush X27 hx (r := (51 : Int32)) (hb hby at_239) rfl rfl ?_
    refine g_bastore X27 hx hZ e27 Vn27 ⟨by decide, by decide⟩ (Nat.le_of_ble_eq_true rfl) (hb hby at_241) rfl fun T28 h28 X28 e28 W28 V28 => ?_
    have Vn28 : Arv Z h28 b22 ka22 .byte (20 : Int32) [(.int r_1), (.int (57 : Int32)), (.int (50 : Int32)), (.int (50 : Int32)), (.int (51 : Int32)), (.int (51 : Int32)), (.int (0 : Int32)), (.int (0 : Int32)), (.int (0 : Int32)), (.int (0 : Int32)), (.int (0 : Int32)), (.int (0 : Int32)), (.int (0 : Int32)), (.int (0 : Int32)), (.int (0 : Int32)), (.int (0 : Int32)), (.int (0 : Int32)), (.int (0 : Int32)), (.int (0 : Int32)), (.int (0 : Int32))] (.int (0 : Int32)) := V28
    have N28 := Fr.snoc X28 N27 g_b22
    have Z28 : n0 ≤ h28.size := by rw [W28.size]; exact Z27
    refine g_dup X28 hx (hb hby at_242) rfl rfl ?_
    refine g_bipush X28 hx (r := (6 : Int32)) (hb hby at_243) rfl rfl ?_
    refine g_bipush X28 hx (r := (55 : Int32)) (hb hby at_245) rfl rfl ?_
    refine g_bastore X28 hx hZ e28 Vn28 ⟨by decide, by decide⟩ (Nat.le_of_ble_eq_true rfl) (hb hby at_247) rfl fun T29 h29 X29 e29 W29 V29 => ?_
    have Vn29 : Arv Z h29 b22 ka22 .byte (20 : Int32) [(.int r_1), (.int (57 : Int32)), (.int (50 : Int32)), (.int (50 : Int32)), (.int (51 : Int32)), (.int (51 : Int32)), (.int (55 : Int32)), (.int (0 : Int32)), (.int (0 : Int32)), (.int (0 : Int32)), (.int (0 : Int32)), (.int (0 : Int32)), (.int (0 : Int32)), (.int (0 : Int32)), (.int (0 : Int32)), (.int (0 : Int32)), (.int (0 : Int32)), (.int (0 : Int32)), (.int (0 : Int32)), (.int (0 : Int32))] (.int (0 : Int32)) := V29
    have N29 := Fr.snoc X29 N28 g_b22
    have Z29 : n0 ≤ h29.size := by rw [W29.size]; exact Z28
    refine g_dup X29 hx (hb hby at_248) rfl rfl ?_
    refine g_bipush X29 hx (r := (7 : Int32)) (hb hby at_249) rfl rfl ?_
    refine g_bipush X29 hx (r := (50 : Int32)) (hb hby at_251) rfl rfl ?_
    refine g_bastore X29 hx hZ e29 Vn29 ⟨by decide, by decide⟩ (Nat.le_of_ble_eq_true rfl) (hb hby at_253) rfl fun T30 h30 X30 e30 W30 V30 => ?_
    have Vn30 : Arv Z h30 b22 ka22 .byte (20 : Int32) [(.int r_1), (.int (57 : Int32)), (.int (50 : Int32)), (.int (50 : Int32)), (.int (51 : Int32)), (.int (51 : Int32)), (.int (55 : Int32)), (.int (50 : Int32)), (.int (0 : Int32)), (.int (0 : Int32)), (.int (0 : Int32)), (.int (0 : Int32)), (.int (0 : Int32)), (.int (0 : Int32)), (.int (0 : Int32)), (.int (0 : Int32)), (.int (0 : Int32)), (.int (0 : Int32)), (.int (0 : Int32)), (.int (0 : Int32))] (.int (0 : Int32)) := V30
    have N30 := Fr.snoc X30 N29 g_b22
    have Z30 : n0 ≤ h30.size := by rw [W30.size]; exact Z29
    refine g_dup X30 hx (hb hby at_254) rfl rfl ?_
    refine g_bipush X30 hx (r := (8 : Int32)) (hb hby at_255) rfl rfl ?_
    refine g_bipush X30 hx (r := (48 : Int32)) (hb hby at_257) rfl rfl ?_
    refine g_bastore X30 hx hZ e30 Vn30 ⟨by decide, by decide⟩ (Nat.le_of_ble_eq_true rfl) (hb hby at_259) rfl fun T31 h31 X31 e31 W31 V31 => ?_
    have Vn31 : Arv Z h31 b22 ka22 .byte (20 : Int32) [(.int r_1), (.int (57 : Int32)), (.int (50 : Int32)), (.int (50 : Int32)), (.int (51 : Int32)), (.int (51 : Int32)), (.int (55 : Int32)), (.int (50 : Int32)), (.int (48 : Int32)), (.int (0 : Int32)), (.int (0 : Int32)), (.int (0 : Int32)), (.int (0 : Int32)), (.int (0 : Int32)), (.int (0 : Int32)), (.int (0 : Int32)), (.int (0 : Int32)), (.int (0 : Int32)), (.int (0 : Int32)), (.int (0 : Int32))] (.int (0 : Int32)) := V31
    have N31 := Fr.snoc X31 N30 g_b22
    have Z31 : n0 ≤ h31.size := by rw [W31.size]; exact Z30
    refine g_dup X31 hx (hb hby at_260) rfl rfl ?_
    refine g_bipush X31 hx (r := (9 : Int32)) (hb hby at_261) rfl rfl ?_
    refine g_bipush X31 hx (r := (51 : Int32)) (hb hby at_263) rfl rfl ?_
    refine g_bastore X31 hx hZ e31 Vn31 ⟨by decide, by decide⟩ (Nat.le_of_ble_eq_true rfl) (hb hby at_265) rfl fun T32 h32 X32 e32 W32 V32 => ?_
    have Vn32 : Arv Z h32 b22 ka22 .byte (20 : Int32) [(.int r_1), (.int (57 : Int32)), (.int (50 : Int32)), (.int (50 : Int32)), (.int (51 : Int32)), (.int (51 : Int32)), (.int (55 : Int32)), (.int (50 : Int32)), (.int (48 : Int32)), (.int (51 : Int32)), (.int (0 : Int32)), (.int (0 : Int32)), (.int (0 : Int32)), (.int (0 : Int32)), (.int (0 : Int32)), (.int (0 : Int32)), (.int (0 : Int32)), (.int (0 : Int32)), (.int (0 : Int32)), (.int (0 : Int32))] (.int (0 : Int32)) := V32
    have N32 := Fr.snoc X32 N31 g_b22
    have Z32 : n0 ≤ h32.size := by rw [W32.size]; exact Z31
    refine g_dup X32 hx (hb hby at_266) rfl rfl ?_
    refine g_bipush X32 hx (r := (10 : Int32)) (hb hby at_267) rfl rfl ?_
    refine g_bipush X32 hx (r := (54 : Int32)) (hb hby at_269) rfl rfl ?_
    refine g_bastore X32 hx hZ e32 Vn32 ⟨by decide, by decide⟩ (Nat.le_of_ble_eq_true rfl) (hb hby at_271) rfl fun T33 h33 X33 e33 W33 V33 => ?_
    have Vn33 : Arv Z h33 b22 ka22 .byte (20 : Int32) [(.int r_1), (.int (57 : Int32)), (.int (50 : Int32)), (.int (50 : Int32)), (.int (51 : Int32)), (.int (51 : Int32)), (.int (55 : Int32)), (.int (50 : Int32)), (.int (48 : Int32)), (.int (51 : Int32)), (.int (54 : Int32)), (.int (0 : Int32)), (.int (0 : Int32)), (.int (0 : Int32)), (.int (0 : Int32)), (.int (0 : Int32)), (.int (0 : Int32)), (.int (0 : Int32)), (.int (0 : Int32)), (.int (0 : Int32))] (.int (0 : Int32)) := V33
    have N33 := Fr.snoc X33 N32 g_b22
    have Z33 : n0 ≤ h33.size := by rw [W33.size]; exact Z32
    refine g_dup X33 hx (hb hby at_272) rfl rfl ?_
    refine g_bipush X33 hx (r := (11 : Int32)) (hb hby at_273) rfl rfl ?_
    refine g_bipush X33 hx (r := (56 : Int32)) (hb hby at_275) rfl rfl ?_
    refine g_bastore X33 hx hZ e33 Vn33 ⟨by decide, by decide⟩ (Nat.le_of_ble_eq_true rfl) (hb hby at_277) rfl fun T34 h34 X34 e34 W34 V34 => ?_
    have Vn34 : Arv Z h34 b22 ka22 .byte (20 : Int32) [(.int r_1), (.int (57 : Int32)), (.int (50 : Int32)), (.int (50 : Int32)), (.int (51 : Int32)), (.int (51 : Int32)), (.int (55 : Int32)), (.int (50 : Int32)), (.int (48 : Int32)), (.int (51 : Int32)), (.int (54 : Int32)), (.int (56 : Int32)), (.int (0 : Int32)), (.int (0 : Int32)), (.int (0 : Int32)), (.int (0 : Int32)), (.int (0 : Int32)), (.int (0 : Int32)), (.int (0 : Int32)), (.int (0 : Int32))] (.int (0 : Int32)) := V34
    have N34 := Fr.snoc X34 N33 g_b22
    have Z34 : n0 ≤ h34.size := by rw [W34.size]; exact Z33
    refine g_dup X34 hx (hb hby at_278) rfl rfl ?_
    refine g_bipush X34 hx (r := (12 : Int32)) (hb hby at_279) rfl rfl ?_
    refine g_bipush X34 hx (r := (53 : Int32)) (hb hby at_281) rfl rfl ?_
    refine g_bastore X34 hx hZ e34 Vn34 ⟨by decide, by decide⟩ (Nat.le_of_ble_eq_true rfl) (hb hby at_283) rfl fun T35 h35 X35 e35 W35 V35 => ?_
    have Vn35 : Arv Z h35 b22 ka22 .byte (20 : Int32) [(.int r_1), (.int (57 : Int32)), (.int (50 : Int32)), (.int (50 : Int32)), (.int (51 : Int32)), (.int (51 : Int32)), (.int (55 : Int32)), (.int (50 : Int32)), (.int (48 : Int32)), (.int (51 : Int32)), (.int (54 : Int32)), (.int (56 : Int32)), (.int (53 : Int32)), (.int (0 : Int32)), (.int (0 : Int32)), (.int (0 : Int32)), (.int (0 : Int32)), (.int (0 : Int32)), (.int (0 : Int32)), (.int (0 : Int32))] (.int (0 : Int32)) := V35
    have N35 := Fr.snoc X35 N34 g_b22
    have Z35 : n0 ≤ h35.size := by rw [W35.size]; exact Z34
    refine g_dup X35 hx (hb hby at_284) rfl rfl ?_
    refine g_bipush X35 hx (r := (13 : Int32)) (hb hby at_285) rfl rfl ?_
    refine g_bipush X35 hx (r := (52 : Int32)) (hb hby at_287) rfl rfl ?_
    refine g_bastore X35 hx hZ e35 Vn35 ⟨by decide, by decide⟩ (Nat.le_of_ble_eq_true rfl) (hb hby at_289) rfl fun T36 h36 X36 e36 W36 V36 => ?_
    have Vn36 : Arv Z h36 b22 ka22 .byte (20 : Int32) [(.int r_1), (.int (57 : Int32)), (.int (50 : Int32)), (.int (50 : Int32)), (.int (51 : Int32)), (.int (51 : Int32)), (.int (55 : Int32)), (.int (50 : Int32)), (.int (48 : Int32)), (.int (51 : Int32)), (.int (54 : Int32)), (.int (56 : Int32)), (.int (53 : Int32)), (.int (52 : Int32)), (.int (0 : Int32)), (.int (0 : Int32)), (.int (0 : Int32)), (.int (0 : Int32)), (.int (0 : Int32)), (.int (0 : Int32))] (.int (0 : Int32)) := V36
    have N36 := Fr.snoc X36 N35 g_b22
    have Z36 : n0 ≤ h36.size := by rw [W36.size]; exact Z35
    refine g_dup X36 hx (hb hby at_290) rfl rfl ?_
    refine g_bipush X36 hx (r := (14 : Int32)) (hb hby at_291) rfl rfl ?_
    refine g_bipush X36 hx (r := (55 : Int32)) (hb hby at_293) rfl rfl ?_
    refine g_bastore X36 hx hZ e36 Vn36 ⟨by decide, by decide⟩ (Nat.le_of_ble_eq_true rfl) (hb hby at_295) rfl fun T37 h37 X37 e37 W37 V37 => ?_
    have Vn37 : Arv Z h37 b22 ka22 .byte (20 : Int32) [(.int r_1), (.int (57 : Int32)), (.int (50 : Int32)), (.int (50 : Int32)), (.int (51 : Int32)), (.int (51 : Int32)), (.int (55 : Int32)), (.int (50 : Int32)), (.int (48 : Int32)), (.int (51 : Int32)), (.int (54 : Int32)), (.int (56 : Int32)), (.int (53 : Int32)), (.int (52 : Int32)), (.int (55 : Int32)), (.int (0 : Int32)), (.int (0 : Int32)), (.int (0 : Int32)), (.int (0 : Int32)), (.int (0 : Int32))] (.int (0 : Int32)) := V37
    have N37 := Fr.snoc X37 N36 g_b22
    have Z37 : n0 ≤ h37.size := by rw [W37.size]; exact Z36
    refine g_dup X37 hx (hb hby at_296) rfl rfl ?_
    refine g_bipush X37 hx (r := (15 : Int32)) (hb hby at_297) rfl rfl ?_
    refine g_bipush X37 hx (r := (55 : Int32)) (hb hby at_299) rfl rfl ?_
    refine g_bastore X37 hx hZ e37 Vn37 ⟨by decide, by decide⟩ (Nat.le_of_ble_eq_true rfl) (hb hby at_301) rfl fun T38 h38 X38 e38 W38 V38 => ?_
    have Vn38 : Arv Z h38 b22 ka22 .byte (20 : Int32) [(.int r_1), (.int (57 : Int32)), (.int (50 : Int32)), (.int (50 : Int32)), (.int (51 : Int32)), (.int (51 : Int32)), (.int (55 : Int32)), (.int (50 : Int32)), (.int (48 : Int32)), (.int (51 : Int32)), (.int (54 : Int32)), (.int (56 : Int32)), (.int (53 : Int32)), (.int (52 : Int32)), (.int (55 : Int32)), (.int (55 : Int32)), (.int (0 : Int32)), (.int (0 : Int32)), (.int (0 : Int32)), (.int (0 : Int32))] (.int (0 : Int32)) := V38
    have N38 := Fr.snoc X38 N37 g_b22
    have Z38 : n0 ≤ h38.size := by rw [W38.size]; exact Z37
    refine g_dup X38 hx (hb hby at_302) rfl rfl ?_
    refine g_bipush X38 hx (r := (16 : Int32)) (hb hby at_303) rfl rfl ?_
    refine g_bipush X38 hx (r := (53 : Int32)) (hb hby at_305) rfl rfl ?_
    refine g_bastore X38 hx hZ e38 Vn38 ⟨by decide, by decide⟩ (Nat.le_of_ble_eq_true rfl) (hb hby at_307) rfl fun T39 h39 X39 e39 W39 V39 => ?_
    have Vn39 : Arv Z h39 b22 ka22 .byte (20 : Int32) [(.int r_1), (.int (57 : Int32)), (.int (50 : Int32)), (.int (50 : Int32)), (.int (51 : Int32)), (.int (51 : Int32)), (.int (55 : Int32)), (.int (50 : Int32)), (.int (48 : Int32)), (.int (51 : Int32)), (.int (54 : Int32)), (.int (56 : Int32)), (.int (53 : Int32)), (.int (52 : Int32)), (.int (55 : Int32)), (.int (55 : Int32)), (.int (53 : Int32)), (.int (0 : Int32)), (.int (0 : Int32)), (.int (0 : Int32))] (.int (0 : Int32)) := V39
    have N39 := Fr.snoc X39 N38 g_b22
    have Z39 : n0 ≤ h39.size := by rw [W39.size]; exact Z38
    refine g_dup X39 hx (hb hby at_308) rfl rfl ?_
    refine g_bipush X39 hx (r := (17 : Int32)) (hb hby at_309) rfl rfl ?_
    refine g_bipush X39 hx (r := (56 : Int32)) (hb hby at_311) rfl rfl ?_
    refine g_bastore X39 hx hZ e39 Vn39 ⟨by decide, by decide⟩ (Nat.le_of_ble_eq_true rfl) (hb hby at_313) rfl fun T40 h40 X40 e40 W40 V40 => ?_
    have Vn40 : Arv Z h40 b22 ka22 .byte (20 : Int32) [(.int r_1), (.int (57 : Int32)), (.int (50 : Int32)), (.int (50 : Int32)), (.int (51 : Int32)), (.int (51 : Int32)), (.int (55 : Int32)), (.int (50 : Int32)), (.int (48 : Int32)), (.int (51 : Int32)), (.int (54 : Int32)), (.int (56 : Int32)), (.int (53 : Int32)), (.int (52 : Int32)), (.int (55 : Int32)), (.int (55 : Int32)), (.int (53 : Int32)), (.int (56 : Int32)), (.int (0 : Int32)), (.int (0 : Int32))] (.int (0 : Int32)) := V40
    have N40 := Fr.snoc X40 N39 g_b22
    have Z40 : n0 ≤ h40.size := by rw [W40.size]; exact Z39
    refine g_dup X40 hx (hb hby at_314) rfl rfl ?_
    refine g_bipush X40 hx (r := (18 : Int32)) (hb hby at_315) rfl rfl ?_
    refine g_iload X40 hx (hb hby at_317) rfl rfl ?_
    refine g_bastore X40 hx hZ e40 Vn40 ⟨by decide, by decide⟩ (Nat.le_of_ble_eq_true rfl) (hb hby at_319) rfl fun T41 h41 X41 e41 W41 V41 => ?_
    rw [own_nar, hrb_2] at V41
    have Vn41 : Arv Z h41 b22 ka22 .byte (20 : Int32) [(.int r_1), (.int (57 : Int32)), (.int (50 : Int32)), (.int (50 : Int32)), (.int (51 : Int32)), (.int (51 : Int32)), (.int (55 : Int32)), (.int (50 : Int32)), (.int (48 : Int32)), (.int (51 : Int32)), (.int (54 : Int32)), (.int (56 : Int32)), (.int (53 : Int32)), (.int (52 : Int32)), (.int (55 : Int32)), (.int (55 : Int32)), (.int (53 : Int32)), (.int (56 : Int32)), (.int r_2), (.int (0 : Int32))] (.int (0 : Int32)) := V41
    have N41 := Fr.snoc X41 N40 g_b22
    have Z41 : n0 ≤ h41.size := by rw [W41.size]; exact Z40
    refine g_dup X41 hx (hb hby at_320) rfl rfl ?_
    refine g_bipush X41 hx (r := (19 : Int32)) (hb hby at_321) rfl rfl ?_
    refine g_iload X41 hx (hb hby at_323) rfl rfl ?_
    refine g_bastore X41 hx hZ e41 Vn41 ⟨by decide, by decide⟩ (Nat.le_of_ble_eq_true rfl) (hb hby at_325) rfl fun T42 h42 X42 e42 W42 V42 => ?_
    rw [own_nar, hrb_3] at V42
    have Vn42 : Arv Z h42 b22 ka22 .byte (20 : Int32) [(.int r_1), (.int (57 : Int32)), (.int (50 : Int32)), (.int (50 : Int32)), (.int (51 : Int32)), (.int (51 : Int32)), (.int (55 : Int32)), (.int (50 : Int32)), (.int (48 : Int32)), (.int (51 : Int32)), (.int (54 : Int32)), (.int (56 : Int32)), (.int (53 : Int32)), (.int (52 : Int32)), (.int (55 : Int32)), (.int (55 : Int32)), (.int (53 : Int32)), (.int (56 : Int32)), (.int r_2), (.int r_3)] (.int (0 : Int32)) := V42
    have N42 := Fr.snoc X42 N41 g_b22
    have Z42 : n0 ≤ h42.size := by rw [W42.size]; exact Z41
    refine g_astore X42 hx (Ls' := #[.val (.int p0), .val (.int p1), .val (.int p2), .val (.int v3), .val (.int r_1), .val (.int r_2), .val (.int r_3), .val (.int r_4), .val (.int v43), .val (.ref b22), .unset, .unset, .unset, .unset, .unset, .unset]) (hb hby at_326) rfl rfl rfl ?_
    refine g_iload X42 hx (hb hby at_328) rfl rfl ?_
    refine g_bipush X42 hx (r := (48 : Int32)) (hb hby at_330) rfl rfl ?_
    refine g_isub X42 hx (hb hby at_332) rfl rfl ?_
    refine g_istore X42 hx (Ls' := #[.val (.int p0), .val (.int p1), .val (.int p2), .val (.int v3), .val (.int r_1), .val (.int r_2), .val (.int r_3), .val (.int r_4), .val (.int v43), .val (.ref b22), .val (.int (r_2 - (48 : Int32))), .unset, .unset, .unset, .unset, .unset]) (hb hby at_333) rfl rfl ?_
    refine g_iload X42 hx (hb hby at_335) rfl rfl ?_
    refine g_bipush X42 hx (r := (48 : Int32)) (hb hby at_337) rfl rfl ?_
    refine g_isub X42 hx (hb hby at_339) rfl rfl ?_
    refine g_istore X42 hx (Ls' := #[.val (.int p0), .val (.int p1), .val (.int p2), .val (.int v3), .val (.int r_1), .val (.int r_2), .val (.int r_3), .val (.int r_4), .val (.int v43), .val (.ref b22), .val (.int (r_2 - (48 : Int32))), .val (.int (r_3 - (48 : Int32))), .unset, .unset, .unset, .unset]) (hb hby at_340) rfl rfl ?_
    refine g_ldc2 X42 hx hZ hown (hw _ (List.mem_of_getElem? (i := 12) rfl)) (hb hby at_342) rfl ?_
    refine g_lstore X42 hx (Ls' := #[.val (.int p0), .val (.int p1), .val (.int p2), .val (.int v3), .val (.int r_1), .val (.int r_2), .val (.int r_3), .val (.int r_4), .val (.int v43), .val (.ref b22), .val (.int (r_2 - (48 : Int32))), .val (.int (r_3 - (48 : Int32))), .val (.long (-1 : Int64)), .second, .unset, .unset]) (hb hby at_345) rfl rfl ?_
    refine g_iload X42 hx (hb hby at_347) rfl rfl ?_
    by_cases hc349 : (r_2 - (48 : Int32)) = (0 : Int32)
    · skip
      refine g_ifN X42 hx (hb hby at_349) rfl (XT.i0_ne_f hc349) ?_
      refine g_iload X42 hx (hb hby at_352) rfl rfl ?_
      by_cases hc354 : (r_3 - (48 : Int32)) < (0 : Int32)
      · skip
        refine g_ifY X42 hx (q := 373) (hb hby at_354) (XT.i0_lt_t hc354) (by decide) (by decide) ?_
        refine g_iload X42 hx (hb hby at_373) rfl rfl ?_
        refine g_iconst X42 hx (r := (2 : Int32)) (hb hby at_375) rfl rfl ?_
        by_cases hc376 : v43 = (2 : Int32)
        · skip
          refine g_icmpN X42 hx (hb hby at_376) rfl (XT.ii_ne_f hc376) ?_
          refine g_aload X42 hx (hb hby at_379) rfl rfl rfl ?_
          refine g_iconst X42 hx (r := (1 : Int32)) (hb hby at_381) rfl rfl ?_
          refine g_bipush X42 hx (r := (20 : Int32)) (hb hby at_382) rfl rfl ?_
          refine g_static X42 hx hZ hown (hw _ (List.mem_of_getElem? (i := 16) rfl)) (hw _ (List.mem_of_getElem? (i := 17) rfl)) (hw _ (List.mem_of_getElem? (i := 18) rfl)) (hw _ (List.mem_of_getElem? (i := 19) rfl)) (by decide) (rm_parse l Z a0 hw b22 ka22 (20 : Int32) [(.int r_1), (.int (57 : Int32)), (.int (50 : Int32)), (.int (50 : Int32)), (.int (51 : Int32)), (.int (51 : Int32)), (.int (55 : Int32)), (.int (50 : Int32)), (.int (48 : Int32)), (.int (51 : Int32)), (.int (54 : Int32)), (.int (56 : Int32)), (.int (53 : Int32)), (.int (52 : Int32)), (.int (55 : Int32)), (.int (55 : Int32)), (.int (53 : Int32)), (.int (56 : Int32)), (.int r_2), (.int r_3)] (1 : Int32) (20 : Int32) (own_f [r_1, (57 : Int32), (50 : Int32), (50 : Int32), (51 : Int32), (51 : Int32), (55 : Int32), (50 : Int32), (48 : Int32), (51 : Int32), (54 : Int32), (56 : Int32), (53 : Int32), (52 : Int32), (55 : Int32), (55 : Int32), (53 : Int32), (56 : Int32), r_2, r_3]) h42 n0 Z42 Vn42 (by decide) (by decide) (by decide) (own_fv [r_1, (57 : Int32), (50 : Int32), (50 : Int32), (51 : Int32), (51 : Int32), (55 : Int32), (50 : Int32), (48 : Int32), (51 : Int32), (54 : Int32), (56 : Int32), (53 : Int32), (52 : Int32), (55 : Int32), (55 : Int32), (53 : Int32), (56 : Int32), r_2, r_3])) (by rw [hml]; rfl) e42 [(.ref b22), (.int (1 : Int32)), (.int (20 : Int32))] rfl rfl (W := 0) (Nat.le_of_eq rfl) (by decide) (by decide) (by decide) (by decide) (lenOf pd_3 rfl) (hb hby at_384) rfl fun v43 T43 L43 X43 hQ43 => ?_
          obtain ⟨rfl, Nq43, eh43⟩ := hQ43
          have N43 := Fr.app N42 Nq43
          show Ga _ _ _ _ _ _ _ _ _ _ _ [(.long (if (1 : Int32) = (20 : Int32) then (-1 : Int64) else own_pr (own_f [r_1, (57 : Int32), (50 : Int32), (50 : Int32), (51 : Int32), (51 : Int32), (55 : Int32), (50 : Int32), (48 : Int32), (51 : Int32), (54 : Int32), (56 : Int32), (53 : Int32), (52 : Int32), (55 : Int32), (55 : Int32), (53 : Int32), (56 : Int32), r_2, r_3]) ((20 : Int32).toNatClampNeg - (1 : Int32).toNatClampNeg) (1 : Int32).toNatClampNeg (0 : Int64)))]
          generalize hr384 : (if (1 : Int32) = (20 : Int32) then (-1 : Int64) else own_pr (own_f [r_1, (57 : Int32), (50 : Int32), (50 : Int32), (51 : Int32), (51 : Int32), (55 : Int32), (50 : Int32), (48 : Int32), (51 : Int32), (54 : Int32), (56 : Int32), (53 : Int32), (52 : Int32), (55 : Int32), (55 : Int32), (53 : Int32), (56 : Int32), r_2, r_3]) ((20 : Int32).toNatClampNeg - (1 : Int32).toNatClampNeg) (1 : Int32).toNatClampNeg (0 : Int64)) = r384
          refine g_lload X43 hx (hb hby at_387) rfl rfl ?_
          refine g_lcmp X43 hx (hb hby at_389) rfl  ?_
          have hc390 : r384 = (-1 : Int64) := hr384.symm.trans (own_m2 (if_neg (fun h => h.2.1 hc354)).symm)
          refine g_ifN X43 hx (hb hby at_390) rfl (XT.ll_ne_f hc390) ?_
          refine g_iconst X43 hx (r := (1 : Int32)) (hb hby at_393) rfl rfl ?_
          refine g_goto X43 hx (q := 398) (hb hby at_394) (by decide) (by decide) ?_
          exact g_retN X43 hx (t := .boolean) (r := (1 : Int32)) hret (by simp) hlk (hb hby at_398) rfl (by decide) (by decide) (by rw [eh43]; exact ⟨rfl, N43⟩)
        · skip
          refine g_icmpY X42 hx (q := 399) (hb hby at_376) (XT.ii_ne_t hc376) (by decide) (by decide) ?_
          refine g_iload X42 hx (hb hby at_399) rfl rfl ?_
          refine g_bipush X42 hx (r := (48 : Int32)) (hb hby at_401) rfl rfl ?_
          by_cases hc403 : r_1 = (48 : Int32)
          · skip
            refine g_icmpN X42 hx (hb hby at_403) rfl (XT.ii_ne_f hc403) ?_
            refine g_lload X42 hx (hb hby at_406) rfl rfl ?_
            refine g_goto X42 hx (q := 414) (hb hby at_408) (by decide) (by decide) ?_
            refine g_lstore X42 hx (Ls' := #[.val (.int p0), .val (.int p1), .val (.int p2), .val (.int v3), .val (.int r_1), .val (.int r_2), .val (.int r_3), .val (.int r_4), .val (.int v43), .val (.ref b22), .val (.int (r_2 - (48 : Int32))), .val (.int (r_3 - (48 : Int32))), .val (.long (-1 : Int64)), .second, .val (.long (-1 : Int64)), .second]) (hb hby at_414) rfl rfl ?_
            refine g_aload X42 hx (hb hby at_416) rfl rfl rfl ?_
            refine g_iconst X42 hx (r := (0 : Int32)) (hb hby at_418) rfl rfl ?_
            refine g_bipush X42 hx (r := (20 : Int32)) (hb hby at_419) rfl rfl ?_
            refine g_static X42 hx hZ hown (hw _ (List.mem_of_getElem? (i := 16) rfl)) (hw _ (List.mem_of_getElem? (i := 17) rfl)) (hw _ (List.mem_of_getElem? (i := 18) rfl)) (hw _ (List.mem_of_getElem? (i := 19) rfl)) (by decide) (rm_parse l Z a0 hw b22 ka22 (20 : Int32) [(.int r_1), (.int (57 : Int32)), (.int (50 : Int32)), (.int (50 : Int32)), (.int (51 : Int32)), (.int (51 : Int32)), (.int (55 : Int32)), (.int (50 : Int32)), (.int (48 : Int32)), (.int (51 : Int32)), (.int (54 : Int32)), (.int (56 : Int32)), (.int (53 : Int32)), (.int (52 : Int32)), (.int (55 : Int32)), (.int (55 : Int32)), (.int (53 : Int32)), (.int (56 : Int32)), (.int r_2), (.int r_3)] (0 : Int32) (20 : Int32) (own_f [r_1, (57 : Int32), (50 : Int32), (50 : Int32), (51 : Int32), (51 : Int32), (55 : Int32), (50 : Int32), (48 : Int32), (51 : Int32), (54 : Int32), (56 : Int32), (53 : Int32), (52 : Int32), (55 : Int32), (55 : Int32), (53 : Int32), (56 : Int32), r_2, r_3]) h42 n0 Z42 Vn42 (by decide) (by decide) (by decide) (own_fv [r_1, (57 : Int32), (50 : Int32), (50 : Int32), (51 : Int32), (51 : Int32), (55 : Int32), (50 : Int32), (48 : Int32), (51 : Int32), (54 : Int32), (56 : Int32), (53 : Int32), (52 : Int32), (55 : Int32), (55 : Int32), (53 : Int32), (56 : Int32), r_2, r_3])) (by rw [hml]; rfl) e42 [(.ref b22), (.int (0 : Int32)), (.int (20 : Int32))] rfl rfl (W := 0) (Nat.le_of_eq rfl) (by decide) (by decide) (by decide) (by decide) (lenOf pd_3 rfl) (hb hby at_421) rfl fun v44 T44 L44 X44 hQ44 => ?_
            obtain ⟨rfl, Nq44, eh44⟩ := hQ44
            have N44 := Fr.app N42 Nq44
            show Ga _ _ _ _ _ _ _ _ _ _ _ [(.long (if (0 : Int32) = (20 : Int32) then (-1 : Int64) else own_pr (own_f [r_1, (57 : Int32), (50 : Int32), (50 : Int32), (51 : Int32), (51 : Int32), (55 : Int32), (50 : Int32), (48 : Int32), (51 : Int32), (54 : Int32), (56 : Int32), (53 : Int32), (52 : Int32), (55 : Int32), (55 : Int32), (53 : Int32), (56 : Int32), r_2, r_3]) ((20 : Int32).toNatClampNeg - (0 : Int32).toNatClampNeg) (0 : Int32).toNatClampNeg (0 : Int64)))]
            generalize hr421 : (if (0 : Int32) = (20 : Int32) then (-1 : Int64) else own_pr (own_f [r_1, (57 : Int32), (50 : Int32), (50 : Int32), (51 : Int32), (51 : Int32), (55 : Int32), (50 : Int32), (48 : Int32), (51 : Int32), (54 : Int32), (56 : Int32), (53 : Int32), (52 : Int32), (55 : Int32), (55 : Int32), (53 : Int32), (56 : Int32), r_2, r_3]) ((20 : Int32).toNatClampNeg - (0 : Int32).toNatClampNeg) (0 : Int32).toNatClampNeg (0 : Int64)) = r421
            refine g_lload X44 hx (hb hby at_424) rfl rfl ?_
            refine g_lcmp X44 hx (hb hby at_426) rfl  ?_
            have hc427 : r421 = (-1 : Int64) := hr421.symm.trans (own_m3 hc403 (if_neg (fun h => h.2.1 hc354)).symm)
            refine g_ifN X44 hx (hb hby at_427) rfl (XT.ll_ne_f hc427) ?_
            refine g_iconst X44 hx (r := (1 : Int32)) (hb hby at_430) rfl rfl ?_
            refine g_goto X44 hx (q := 435) (hb hby at_431) (by decide) (by decide) ?_
            exact g_retN X44 hx (t := .boolean) (r := (1 : Int32)) hret (by simp) hlk (hb hby at_435) rfl (by decide) (by decide) (by rw [eh44]; exact ⟨rfl, N44⟩)
          · skip
            refine g_icmpY X42 hx (q := 411) (hb hby at_403) (XT.ii_ne_t hc403) (by decide) (by decide) ?_
            refine g_ldc2 X42 hx hZ hown (hw _ (List.mem_of_getElem? (i := 12) rfl)) (hb hby at_411) rfl ?_
            refine g_lstore X42 hx (Ls' := #[.val (.int p0), .val (.int p1), .val (.int p2), .val (.int v3), .val (.int r_1), .val (.int r_2), .val (.int r_3), .val (.int r_4), .val (.int v43), .val (.ref b22), .val (.int (r_2 - (48 : Int32))), .val (.int (r_3 - (48 : Int32))), .val (.long (-1 : Int64)), .second, .val (.long (-1 : Int64)), .second]) (hb hby at_414) rfl rfl ?_
            refine g_aload X42 hx (hb hby at_416) rfl rfl rfl ?_
            refine g_iconst X42 hx (r := (0 : Int32)) (hb hby at_418) rfl rfl ?_
            refine g_bipush X42 hx (r := (20 : Int32)) (hb hby at_419) rfl rfl ?_
            refine g_static X42 hx hZ hown (hw _ (List.mem_of_getElem? (i := 16) rfl)) (hw _ (List.mem_of_getElem? (i := 17) rfl)) (hw _ (List.mem_of_getElem? (i := 18) rfl)) (hw _ (List.mem_of_getElem? (i := 19) rfl)) (by decide) (rm_parse l Z a0 hw b22 ka22 (20 : Int32) [(.int r_1), (.int (57 : Int32)), (.int (50 : Int32)), (.int (50 : Int32)), (.int (51 : Int32)), (.int (51 : Int32)), (.int (55 : Int32)), (.int (50 : Int32)), (.int (48 : Int32)), (.int (51 : Int32)), (.int (54 : Int32)), (.int (56 : Int32)), (.int (53 : Int32)), (.int (52 : Int32)), (.int (55 : Int32)), (.int (55 : Int32)), (.int (53 : Int32)), (.int (56 : Int32)), (.int r_2), (.int r_3)] (0 : Int32) (20 : Int32) (own_f [r_1, (57 : Int32), (50 : Int32), (50 : Int32), (51 : Int32), (51 : Int32), (55 : Int32), (50 : Int32), (48 : Int32), (51 : Int32), (54 : Int32), (56 : Int32), (53 : Int32), (52 : Int32), (55 : Int32), (55 : Int32), (53 : Int32), (56 : Int32), r_2, r_3]) h42 n0 Z42 Vn42 (by decide) (by decide) (by decide) (own_fv [r_1, (57 : Int32), (50 : Int32), (50 : Int32), (51 : Int32), (51 : Int32), (55 : Int32), (50 : Int32), (48 : Int32), (51 : Int32), (54 : Int32), (56 : Int32), (53 : Int32), (52 : Int32), (55 : Int32), (55 : Int32), (53 : Int32), (56 : Int32), r_2, r_3])) (by rw [hml]; rfl) e42 [(.ref b22), (.int (0 : Int32)), (.int (20 : Int32))] rfl rfl (W := 0) (Nat.le_of_eq rfl) (by decide) (by decide) (by decide) (by decide) (lenOf pd_3 rfl) (hb hby at_421) rfl fun v45 T45 L45 X45 hQ45 => ?_
            obtain ⟨rfl, Nq45, eh45⟩ := hQ45
            have N45 := Fr.app N42 Nq45
            show Ga _ _ _ _ _ _ _ _ _ _ _ [(.long (if (0 : Int32) = (20 : Int32) then (-1 : Int64) else own_pr (own_f [r_1, (57 : Int32), (50 : Int32), (50 : Int32), (51 : Int32), (51 : Int32), (55 : Int32), (50 : Int32), (48 : Int32), (51 : Int32), (54 : Int32), (56 : Int32), (53 : Int32), (52 : Int32), (55 : Int32), (55 : Int32), (53 : Int32), (56 : Int32), r_2, r_3]) ((20 : Int32).toNatClampNeg - (0 : Int32).toNatClampNeg) (0 : Int32).toNatClampNeg (0 : Int64)))]
            generalize hr421 : (if (0 : Int32) = (20 : Int32) then (-1 : Int64) else own_pr (own_f [r_1, (57 : Int32), (50 : Int32), (50 : Int32), (51 : Int32), (51 : Int32), (55 : Int32), (50 : Int32), (48 : Int32), (51 : Int32), (54 : Int32), (56 : Int32), (53 : Int32), (52 : Int32), (55 : Int32), (55 : Int32), (53 : Int32), (56 : Int32), r_2, r_3]) ((20 : Int32).toNatClampNeg - (0 : Int32).toNatClampNeg) (0 : Int32).toNatClampNeg (0 : Int64)) = r421
            refine g_lload X45 hx (hb hby at_424) rfl rfl ?_
            refine g_lcmp X45 hx (hb hby at_426) rfl  ?_
            have hc427 : r421 = (-1 : Int64) := hr421.symm.trans (own_m4 hc403)
            refine g_ifN X45 hx (hb hby at_427) rfl (XT.ll_ne_f hc427) ?_
            refine g_iconst X45 hx (r := (1 : Int32)) (hb hby at_430) rfl rfl ?_
            refine g_goto X45 hx (q := 435) (hb hby at_431) (by decide) (by decide) ?_
            exact g_retN X45 hx (t := .boolean) (r := (1 : Int32)) hret (by simp) hlk (hb hby at_435) rfl (by decide) (by decide) (by rw [eh45]; exact ⟨rfl, N45⟩)
      · skip
        refine g_ifN X42 hx (hb hby at_354) rfl (XT.i0_lt_f hc354) ?_
        refine g_iload X42 hx (hb hby at_357) rfl rfl ?_
        refine g_bipush X42 hx (r := (7 : Int32)) (hb hby at_359) rfl rfl ?_
        by_cases hc361 : (7 : Int32) < (r_3 - (48 : Int32))
        · skip
          refine g_icmpY X42 hx (q := 373) (hb hby at_361) (XT.ii_gt_t hc361) (by decide) (by decide) ?_
          refine g_iload X42 hx (hb hby at_373) rfl rfl ?_
          refine g_iconst X42 hx (r := (2 : Int32)) (hb hby at_375) rfl rfl ?_
          by_cases hc376 : v43 = (2 : Int32)
          · skip
            refine g_icmpN X42 hx (hb hby at_376) rfl (XT.ii_ne_f hc376) ?_
            refine g_aload X42 hx (hb hby at_379) rfl rfl rfl ?_
            refine g_iconst X42 hx (r := (1 : Int32)) (hb hby at_381) rfl rfl ?_
            refine g_bipush X42 hx (r := (20 : Int32)) (hb hby at_382) rfl rfl ?_
            refine g_static X42 hx hZ hown (hw _ (List.mem_of_getElem? (i := 16) rfl)) (hw _ (List.mem_of_getElem? (i := 17) rfl)) (hw _ (List.mem_of_getElem? (i := 18) rfl)) (hw _ (List.mem_of_getElem? (i := 19) rfl)) (by decide) (rm_parse l Z a0 hw b22 ka22 (20 : Int32) [(.int r_1), (.int (57 : Int32)), (.int (50 : Int32)), (.int (50 : Int32)), (.int (51 : Int32)), (.int (51 : Int32)), (.int (55 : Int32)), (.int (50 : Int32)), (.int (48 : Int32)), (.int (51 : Int32)), (.int (54 : Int32)), (.int (56 : Int32)), (.int (53 : Int32)), (.int (52 : Int32)), (.int (55 : Int32)), (.int (55 : Int32)), (.int (53 : Int32)), (.int (56 : Int32)), (.int r_2), (.int r_3)] (1 : Int32) (20 : Int32) (own_f [r_1, (57 : Int32), (50 : Int32), (50 : Int32), (51 : Int32), (51 : Int32), (55 : Int32), (50 : Int32), (48 : Int32), (51 : Int32), (54 : Int32), (56 : Int32), (53 : Int32), (52 : Int32), (55 : Int32), (55 : Int32), (53 : Int32), (56 : Int32), r_2, r_3]) h42 n0 Z42 Vn42 (by decide) (by decide) (by decide) (own_fv [r_1, (57 : Int32), (50 : Int32), (50 : Int32), (51 : Int32), (51 : Int32), (55 : Int32), (50 : Int32), (48 : Int32), (51 : Int32), (54 : Int32), (56 : Int32), (53 : Int32), (52 : Int32), (55 : Int32), (55 : Int32), (53 : Int32), (56 : Int32), r_2, r_3])) (by rw [hml]; rfl) e42 [(.ref b22), (.int (1 : Int32)), (.int (20 : Int32))] rfl rfl (W := 0) (Nat.le_of_eq rfl) (by decide) (by decide) (by decide) (by decide) (lenOf pd_3 rfl) (hb hby at_384) rfl fun v46 T46 L46 X46 hQ46 => ?_
            obtain ⟨rfl, Nq46, eh46⟩ := hQ46
            have N46 := Fr.app N42 Nq46
            show Ga _ _ _ _ _ _ _ _ _ _ _ [(.long (if (1 : Int32) = (20 : Int32) then (-1 : Int64) else own_pr (own_f [r_1, (57 : Int32), (50 : Int32), (50 : Int32), (51 : Int32), (51 : Int32), (55 : Int32), (50 : Int32), (48 : Int32), (51 : Int32), (54 : Int32), (56 : Int32), (53 : Int32), (52 : Int32), (55 : Int32), (55 : Int32), (53 : Int32), (56 : Int32), r_2, r_3]) ((20 : Int32).toNatClampNeg - (1 : Int32).toNatClampNeg) (1 : Int32).toNatClampNeg (0 : Int64)))]
            generalize hr384 : (if (1 : Int32) = (20 : Int32) then (-1 : Int64) else own_pr (own_f [r_1, (57 : Int32), (50 : Int32), (50 : Int32), (51 : Int32), (51 : Int32), (55 : Int32), (50 : Int32), (48 : Int32), (51 : Int32), (54 : Int32), (56 : Int32), (53 : Int32), (52 : Int32), (55 : Int32), (55 : Int32), (53 : Int32), (56 : Int32), r_2, r_3]) ((20 : Int32).toNatClampNeg - (1 : Int32).toNatClampNeg) (1 : Int32).toNatClampNeg (0 : Int64)) = r384
            refine g_lload X46 hx (hb hby at_387) rfl rfl ?_
            refine g_lcmp X46 hx (hb hby at_389) rfl  ?_
            have hc390 : r384 = (-1 : Int64) := hr384.symm.trans (own_m2 (if_neg (fun h => h.2.2 hc361)).symm)
            refine g_ifN X46 hx (hb hby at_390) rfl (XT.ll_ne_f hc390) ?_
            refine g_iconst X46 hx (r := (1 : Int32)) (hb hby at_393) rfl rfl ?_
            refine g_goto X46 hx (q := 398) (hb hby at_394) (by decide) (by decide) ?_
            exact g_retN X46 hx (t := .boolean) (r := (1 : Int32)) hret (by simp) hlk (hb hby at_398) rfl (by decide) (by decide) (by rw [eh46]; exact ⟨rfl, N46⟩)
          · skip
            refine g_icmpY X42 hx (q := 399) (hb hby at_376) (XT.ii_ne_t hc376) (by decide) (by decide) ?_
            refine g_iload X42 hx (hb hby at_399) rfl rfl ?_
            refine g_bipush X42 hx (r := (48 : Int32)) (hb hby at_401) rfl rfl ?_
            by_cases hc403 : r_1 = (48 : Int32)
            · skip
              refine g_icmpN X42 hx (hb hby at_403) rfl (XT.ii_ne_f hc403) ?_
              refine g_lload X42 hx (hb hby at_406) rfl rfl ?_
              refine g_goto X42 hx (q := 414) (hb hby at_408) (by decide) (by decide) ?_
              refine g_lstore X42 hx (Ls' := #[.val (.int p0), .val (.int p1), .val (.int p2), .val (.int v3), .val (.int r_1), .val (.int r_2), .val (.int r_3), .val (.int r_4), .val (.int v43), .val (.ref b22), .val (.int (r_2 - (48 : Int32))), .val (.int (r_3 - (48 : Int32))), .val (.long (-1 : Int64)), .second, .val (.long (-1 : Int64)), .second]) (hb hby at_414) rfl rfl ?_
              refine g_aload X42 hx (hb hby at_416) rfl rfl rfl ?_
              refine g_iconst X42 hx (r := (0 : Int32)) (hb hby at_418) rfl rfl ?_
              refine g_bipush X42 hx (r := (20 : Int32)) (hb hby at_419) rfl rfl ?_
              refine g_static X42 hx hZ hown (hw _ (List.mem_of_getElem? (i := 16) rfl)) (hw _ (List.mem_of_getElem? (i := 17) rfl)) (hw _ (List.mem_of_getElem? (i := 18) rfl)) (hw _ (List.mem_of_getElem? (i := 19) rfl)) (by decide) (rm_parse l Z a0 hw b22 ka22 (20 : Int32) [(.int r_1), (.int (57 : Int32)), (.int (50 : Int32)), (.int (50 : Int32)), (.int (51 : Int32)), (.int (51 : Int32)), (.int (55 : Int32)), (.int (50 : Int32)), (.int (48 : Int32)), (.int (51 : Int32)), (.int (54 : Int32)), (.int (56 : Int32)), (.int (53 : Int32)), (.int (52 : Int32)), (.int (55 : Int32)), (.int (55 : Int32)), (.int (53 : Int32)), (.int (56 : Int32)), (.int r_2), (.int r_3)] (0 : Int32) (20 : Int32) (own_f [r_1, (57 : Int32), (50 : Int32), (50 : Int32), (51 : Int32), (51 : Int32), (55 : Int32), (50 : Int32), (48 : Int32), (51 : Int32), (54 : Int32), (56 : Int32), (53 : Int32), (52 : Int32), (55 : Int32), (55 : Int32), (53 : Int32), (56 : Int32), r_2, r_3]) h42 n0 Z42 Vn42 (by decide) (by decide) (by decide) (own_fv [r_1, (57 : Int32), (50 : Int32), (50 : Int32), (51 : Int32), (51 : Int32), (55 : Int32), (50 : Int32), (48 : Int32), (51 : Int32), (54 : Int32), (56 : Int32), (53 : Int32), (52 : Int32), (55 : Int32), (55 : Int32), (53 : Int32), (56 : Int32), r_2, r_3])) (by rw [hml]; rfl) e42 [(.ref b22), (.int (0 : Int32)), (.int (20 : Int32))] rfl rfl (W := 0) (Nat.le_of_eq rfl) (by decide) (by decide) (by decide) (by decide) (lenOf pd_3 rfl) (hb hby at_421) rfl fun v47 T47 L47 X47 hQ47 => ?_
              obtain ⟨rfl, Nq47, eh47⟩ := hQ47
              have N47 := Fr.app N42 Nq47
              show Ga _ _ _ _ _ _ _ _ _ _ _ [(.long (if (0 : Int32) = (20 : Int32) then (-1 : Int64) else own_pr (own_f [r_1, (57 : Int32), (50 : Int32), (50 : Int32), (51 : Int32), (51 : Int32), (55 : Int32), (50 : Int32), (48 : Int32), (51 : Int32), (54 : Int32), (56 : Int32), (53 : Int32), (52 : Int32), (55 : Int32), (55 : Int32), (53 : Int32), (56 : Int32), r_2, r_3]) ((20 : Int32).toNatClampNeg - (0 : Int32).toNatClampNeg) (0 : Int32).toNatClampNeg (0 : Int64)))]
              generalize hr421 : (if (0 : Int32) = (20 : Int32) then (-1 : Int64) else own_pr (own_f [r_1, (57 : Int32), (50 : Int32), (50 : Int32), (51 : Int32), (51 : Int32), (55 : Int32), (50 : Int32), (48 : Int32), (51 : Int32), (54 : Int32), (56 : Int32), (53 : Int32), (52 : Int32), (55 : Int32), (55 : Int32), (53 : Int32), (56 : Int32), r_2, r_3]) ((20 : Int32).toNatClampNeg - (0 : Int32).toNatClampNeg) (0 : Int32).toNatClampNeg (0 : Int64)) = r421
              refine g_lload X47 hx (hb hby at_424) rfl rfl ?_
              refine g_lcmp X47 hx (hb hby at_426) rfl  ?_
              have hc427 : r421 = (-1 : Int64) := hr421.symm.trans (own_m3 hc403 (if_neg (fun h => h.2.2 hc361)).symm)
              refine g_ifN X47 hx (hb hby at_427) rfl (XT.ll_ne_f hc427) ?_
              refine g_iconst X47 hx (r := (1 : Int32)) (hb hby at_430) rfl rfl ?_
              refine g_goto X47 hx (q := 435) (hb hby at_431) (by decide) (by decide) ?_
              exact g_retN X47 hx (t := .boolean) (r := (1 : Int32)) hret (by simp) hlk (hb hby at_435) rfl (by decide) (by decide) (by rw [eh47]; exact ⟨rfl, N47⟩)
            · skip
              refine g_icmpY X42 hx (q := 411) (hb hby at_403) (XT.ii_ne_t hc403) (by decide) (by decide) ?_
              refine g_ldc2 X42 hx hZ hown (hw _ (List.mem_of_getElem? (i := 12) rfl)) (hb hby at_411) rfl ?_
              refine g_lstore X42 hx (Ls' := #[.val (.int p0), .val (.int p1), .val (.int p2), .val (.int v3), .val (.int r_1), .val (.int r_2), .val (.int r_3), .val (.int r_4), .val (.int v43), .val (.ref b22), .val (.int (r_2 - (48 : Int32))), .val (.int (r_3 - (48 : Int32))), .val (.long (-1 : Int64)), .second, .val (.long (-1 : Int64)), .second]) (hb hby at_414) rfl rfl ?_
              refine g_aload X42 hx (hb hby at_416) rfl rfl rfl ?_
              refine g_iconst X42 hx (r := (0 : Int32)) (hb hby at_418) rfl rfl ?_
              refine g_bipush X42 hx (r := (20 : Int32)) (hb hby at_419) rfl rfl ?_
              refine g_static X42 hx hZ hown (hw _ (List.mem_of_getElem? (i := 16) rfl)) (hw _ (List.mem_of_getElem? (i := 17) rfl)) (hw _ (List.mem_of_getElem? (i := 18) rfl)) (hw _ (List.mem_of_getElem? (i := 19) rfl)) (by decide) (rm_parse l Z a0 hw b22 ka22 (20 : Int32) [(.int r_1), (.int (57 : Int32)), (.int (50 : Int32)), (.int (50 : Int32)), (.int (51 : Int32)), (.int (51 : Int32)), (.int (55 : Int32)), (.int (50 : Int32)), (.int (48 : Int32)), (.int (51 : Int32)), (.int (54 : Int32)), (.int (56 : Int32)), (.int (53 : Int32)), (.int (52 : Int32)), (.int (55 : Int32)), (.int (55 : Int32)), (.int (53 : Int32)), (.int (56 : Int32)), (.int r_2), (.int r_3)] (0 : Int32) (20 : Int32) (own_f [r_1, (57 : Int32), (50 : Int32), (50 : Int32), (51 : Int32), (51 : Int32), (55 : Int32), (50 : Int32), (48 : Int32), (51 : Int32), (54 : Int32), (56 : Int32), (53 : Int32), (52 : Int32), (55 : Int32), (55 : Int32), (53 : Int32), (56 : Int32), r_2, r_3]) h42 n0 Z42 Vn42 (by decide) (by decide) (by decide) (own_fv [r_1, (57 : Int32), (50 : Int32), (50 : Int32), (51 : Int32), (51 : Int32), (55 : Int32), (50 : Int32), (48 : Int32), (51 : Int32), (54 : Int32), (56 : Int32), (53 : Int32), (52 : Int32), (55 : Int32), (55 : Int32), (53 : Int32), (56 : Int32), r_2, r_3])) (by rw [hml]; rfl) e42 [(.ref b22), (.int (0 : Int32)), (.int (20 : Int32))] rfl rfl (W := 0) (Nat.le_of_eq rfl) (by decide) (by decide) (by decide) (by decide) (lenOf pd_3 rfl) (hb hby at_421) rfl fun v48 T48 L48 X48 hQ48 => ?_
              obtain ⟨rfl, Nq48, eh48⟩ := hQ48
              have N48 := Fr.app N42 Nq48
              show Ga _ _ _ _ _ _ _ _ _ _ _ [(.long (if (0 : Int32) = (20 : Int32) then (-1 : Int64) else own_pr (own_f [r_1, (57 : Int32), (50 : Int32), (50 : Int32), (51 : Int32), (51 : Int32), (55 : Int32), (50 : Int32), (48 : Int32), (51 : Int32), (54 : Int32), (56 : Int32), (53 : Int32), (52 : Int32), (55 : Int32), (55 : Int32), (53 : Int32), (56 : Int32), r_2, r_3]) ((20 : Int32).toNatClampNeg - (0 : Int32).toNatClampNeg) (0 : Int32).toNatClampNeg (0 : Int64)))]
              generalize hr421 : (if (0 : Int32) = (20 : Int32) then (-1 : Int64) else own_pr (own_f [r_1, (57 : Int32), (50 : Int32), (50 : Int32), (51 : Int32), (51 : Int32), (55 : Int32), (50 : Int32), (48 : Int32), (51 : Int32), (54 : Int32), (56 : Int32), (53 : Int32), (52 : Int32), (55 : Int32), (55 : Int32), (53 : Int32), (56 : Int32), r_2, r_3]) ((20 : Int32).toNatClampNeg - (0 : Int32).toNatClampNeg) (0 : Int32).toNatClampNeg (0 : Int64)) = r421
              refine g_lload X48 hx (hb hby at_424) rfl rfl ?_
              refine g_lcmp X48 hx (hb hby at_426) rfl  ?_
              have hc427 : r421 = (-1 : Int64) := hr421.symm.trans (own_m4 hc403)
              refine g_ifN X48 hx (hb hby at_427) rfl (XT.ll_ne_f hc427) ?_
              refine g_iconst X48 hx (r := (1 : Int32)) (hb hby at_430) rfl rfl ?_
              refine g_goto X48 hx (q := 435) (hb hby at_431) (by decide) (by decide) ?_
              exact g_retN X48 hx (t := .boolean) (r := (1 : Int32)) hret (by simp) hlk (hb hby at_435) rfl (by decide) (by decide) (by rw [eh48]; exact ⟨rfl, N48⟩)
        · skip
          refine g_icmpN X42 hx (hb hby at_361) rfl (XT.ii_gt_f hc361) ?_
          refine g_ldc2 X42 hx hZ hown (hw _ (List.mem_of_getElem? (i := 24) rfl)) (hb hby at_364) rfl ?_
          refine g_iload X42 hx (hb hby at_367) rfl rfl ?_
          refine g_i2l X42 hx (hb hby at_369) rfl rfl ?_
          refine g_ladd X42 hx (hb hby at_370) rfl rfl ?_
          refine g_lstore X42 hx (Ls' := #[.val (.int p0), .val (.int p1), .val (.int p2), .val (.int v3), .val (.int r_1), .val (.int r_2), .val (.int r_3), .val (.int r_4), .val (.int v43), .val (.ref b22), .val (.int (r_2 - (48 : Int32))), .val (.int (r_3 - (48 : Int32))), .val (.long ((9223372036854775800 : Int64) + ((r_3 - (48 : Int32)).toInt64))), .second, .unset, .unset]) (hb hby at_371) rfl rfl ?_
          refine g_iload X42 hx (hb hby at_373) rfl rfl ?_
          refine g_iconst X42 hx (r := (2 : Int32)) (hb hby at_375) rfl rfl ?_
          by_cases hc376 : v43 = (2 : Int32)
          · skip
            refine g_icmpN X42 hx (hb hby at_376) rfl (XT.ii_ne_f hc376) ?_
            refine g_aload X42 hx (hb hby at_379) rfl rfl rfl ?_
            refine g_iconst X42 hx (r := (1 : Int32)) (hb hby at_381) rfl rfl ?_
            refine g_bipush X42 hx (r := (20 : Int32)) (hb hby at_382) rfl rfl ?_
            refine g_static X42 hx hZ hown (hw _ (List.mem_of_getElem? (i := 16) rfl)) (hw _ (List.mem_of_getElem? (i := 17) rfl)) (hw _ (List.mem_of_getElem? (i := 18) rfl)) (hw _ (List.mem_of_getElem? (i := 19) rfl)) (by decide) (rm_parse l Z a0 hw b22 ka22 (20 : Int32) [(.int r_1), (.int (57 : Int32)), (.int (50 : Int32)), (.int (50 : Int32)), (.int (51 : Int32)), (.int (51 : Int32)), (.int (55 : Int32)), (.int (50 : Int32)), (.int (48 : Int32)), (.int (51 : Int32)), (.int (54 : Int32)), (.int (56 : Int32)), (.int (53 : Int32)), (.int (52 : Int32)), (.int (55 : Int32)), (.int (55 : Int32)), (.int (53 : Int32)), (.int (56 : Int32)), (.int r_2), (.int r_3)] (1 : Int32) (20 : Int32) (own_f [r_1, (57 : Int32), (50 : Int32), (50 : Int32), (51 : Int32), (51 : Int32), (55 : Int32), (50 : Int32), (48 : Int32), (51 : Int32), (54 : Int32), (56 : Int32), (53 : Int32), (52 : Int32), (55 : Int32), (55 : Int32), (53 : Int32), (56 : Int32), r_2, r_3]) h42 n0 Z42 Vn42 (by decide) (by decide) (by decide) (own_fv [r_1, (57 : Int32), (50 : Int32), (50 : Int32), (51 : Int32), (51 : Int32), (55 : Int32), (50 : Int32), (48 : Int32), (51 : Int32), (54 : Int32), (56 : Int32), (53 : Int32), (52 : Int32), (55 : Int32), (55 : Int32), (53 : Int32), (56 : Int32), r_2, r_3])) (by rw [hml]; rfl) e42 [(.ref b22), (.int (1 : Int32)), (.int (20 : Int32))] rfl rfl (W := 0) (Nat.le_of_eq rfl) (by decide) (by decide) (by decide) (by decide) (lenOf pd_3 rfl) (hb hby at_384) rfl fun v49 T49 L49 X49 hQ49 => ?_
            obtain ⟨rfl, Nq49, eh49⟩ := hQ49
            have N49 := Fr.app N42 Nq49
            show Ga _ _ _ _ _ _ _ _ _ _ _ [(.long (if (1 : Int32) = (20 : Int32) then (-1 : Int64) else own_pr (own_f [r_1, (57 : Int32), (50 : Int32), (50 : Int32), (51 : Int32), (51 : Int32), (55 : Int32), (50 : Int32), (48 : Int32), (51 : Int32), (54 : Int32), (56 : Int32), (53 : Int32), (52 : Int32), (55 : Int32), (55 : Int32), (53 : Int32), (56 : Int32), r_2, r_3]) ((20 : Int32).toNatClampNeg - (1 : Int32).toNatClampNeg) (1 : Int32).toNatClampNeg (0 : Int64)))]
            generalize hr384 : (if (1 : Int32) = (20 : Int32) then (-1 : Int64) else own_pr (own_f [r_1, (57 : Int32), (50 : Int32), (50 : Int32), (51 : Int32), (51 : Int32), (55 : Int32), (50 : Int32), (48 : Int32), (51 : Int32), (54 : Int32), (56 : Int32), (53 : Int32), (52 : Int32), (55 : Int32), (55 : Int32), (53 : Int32), (56 : Int32), r_2, r_3]) ((20 : Int32).toNatClampNeg - (1 : Int32).toNatClampNeg) (1 : Int32).toNatClampNeg (0 : Int64)) = r384
            refine g_lload X49 hx (hb hby at_387) rfl rfl ?_
            refine g_lcmp X49 hx (hb hby at_389) rfl  ?_
            have hc390 : r384 = ((9223372036854775800 : Int64) + ((r_3 - (48 : Int32)).toInt64)) := hr384.symm.trans (own_m2 (if_pos ⟨hc349, hc354, hc361⟩).symm)
            refine g_ifN X49 hx (hb hby at_390) rfl (XT.ll_ne_f hc390) ?_
            refine g_iconst X49 hx (r := (1 : Int32)) (hb hby at_393) rfl rfl ?_
            refine g_goto X49 hx (q := 398) (hb hby at_394) (by decide) (by decide) ?_
            exact g_retN X49 hx (t := .boolean) (r := (1 : Int32)) hret (by simp) hlk (hb hby at_398) rfl (by decide) (by decide) (by rw [eh49]; exact ⟨rfl, N49⟩)
          · skip
            refine g_icmpY X42 hx (q := 399) (hb hby at_376) (XT.ii_ne_t hc376) (by decide) (by decide) ?_
            refine g_iload X42 hx (hb hby at_399) rfl rfl ?_
            refine g_bipush X42 hx (r := (48 : Int32)) (hb hby at_401) rfl rfl ?_
            by_cases hc403 : r_1 = (48 : Int32)
            · skip
              refine g_icmpN X42 hx (hb hby at_403) rfl (XT.ii_ne_f hc403) ?_
              refine g_lload X42 hx (hb hby at_406) rfl rfl ?_
              refine g_goto X42 hx (q := 414) (hb hby at_408) (by decide) (by decide) ?_
              refine g_lstore X42 hx (Ls' := #[.val (.int p0), .val (.int p1), .val (.int p2), .val (.int v3), .val (.int r_1), .val (.int r_2), .val (.int r_3), .val (.int r_4), .val (.int v43), .val (.ref b22), .val (.int (r_2 - (48 : Int32))), .val (.int (r_3 - (48 : Int32))), .val (.long ((9223372036854775800 : Int64) + ((r_3 - (48 : Int32)).toInt64))), .second, .val (.long ((9223372036854775800 : Int64) + ((r_3 - (48 : Int32)).toInt64))), .second]) (hb hby at_414) rfl rfl ?_
              refine g_aload X42 hx (hb hby at_416) rfl rfl rfl ?_
              refine g_iconst X42 hx (r := (0 : Int32)) (hb hby at_418) rfl rfl ?_
              refine g_bipush X42 hx (r := (20 : Int32)) (hb hby at_419) rfl rfl ?_
              refine g_static X42 hx hZ hown (hw _ (List.mem_of_getElem? (i := 16) rfl)) (hw _ (List.mem_of_getElem? (i := 17) rfl)) (hw _ (List.mem_of_getElem? (i := 18) rfl)) (hw _ (List.mem_of_getElem? (i := 19) rfl)) (by decide) (rm_parse l Z a0 hw b22 ka22 (20 : Int32) [(.int r_1), (.int (57 : Int32)), (.int (50 : Int32)), (.int (50 : Int32)), (.int (51 : Int32)), (.int (51 : Int32)), (.int (55 : Int32)), (.int (50 : Int32)), (.int (48 : Int32)), (.int (51 : Int32)), (.int (54 : Int32)), (.int (56 : Int32)), (.int (53 : Int32)), (.int (52 : Int32)), (.int (55 : Int32)), (.int (55 : Int32)), (.int (53 : Int32)), (.int (56 : Int32)), (.int r_2), (.int r_3)] (0 : Int32) (20 : Int32) (own_f [r_1, (57 : Int32), (50 : Int32), (50 : Int32), (51 : Int32), (51 : Int32), (55 : Int32), (50 : Int32), (48 : Int32), (51 : Int32), (54 : Int32), (56 : Int32), (53 : Int32), (52 : Int32), (55 : Int32), (55 : Int32), (53 : Int32), (56 : Int32), r_2, r_3]) h42 n0 Z42 Vn42 (by decide) (by decide) (by decide) (own_fv [r_1, (57 : Int32), (50 : Int32), (50 : Int32), (51 : Int32), (51 : Int32), (55 : Int32), (50 : Int32), (48 : Int32), (51 : Int32), (54 : Int32), (56 : Int32), (53 : Int32), (52 : Int32), (55 : Int32), (55 : Int32), (53 : Int32), (56 : Int32), r_2, r_3])) (by rw [hml]; rfl) e42 [(.ref b22), (.int (0 : Int32)), (.int (20 : Int32))] rfl rfl (W := 0) (Nat.le_of_eq rfl) (by decide) (by decide) (by decide) (by decide) (lenOf pd_3 rfl) (hb hby at_421) rfl fun v50 T50 L50 X50 hQ50 => ?_
              obtain ⟨rfl, Nq50, eh50⟩ := hQ50
              have N50 := Fr.app N42 Nq50
              show Ga _ _ _ _ _ _ _ _ _ _ _ [(.long (if (0 : Int32) = (20 : Int32) then (-1 : Int64) else own_pr (own_f [r_1, (57 : Int32), (50 : Int32), (50 : Int32), (51 : Int32), (51 : Int32), (55 : Int32), (50 : Int32), (48 : Int32), (51 : Int32), (54 : Int32), (56 : Int32), (53 : Int32), (52 : Int32), (55 : Int32), (55 : Int32), (53 : Int32), (56 : Int32), r_2, r_3]) ((20 : Int32).toNatClampNeg - (0 : Int32).toNatClampNeg) (0 : Int32).toNatClampNeg (0 : Int64)))]
              generalize hr421 : (if (0 : Int32) = (20 : Int32) then (-1 : Int64) else own_pr (own_f [r_1, (57 : Int32), (50 : Int32), (50 : Int32), (51 : Int32), (51 : Int32), (55 : Int32), (50 : Int32), (48 : Int32), (51 : Int32), (54 : Int32), (56 : Int32), (53 : Int32), (52 : Int32), (55 : Int32), (55 : Int32), (53 : Int32), (56 : Int32), r_2, r_3]) ((20 : Int32).toNatClampNeg - (0 : Int32).toNatClampNeg) (0 : Int32).toNatClampNeg (0 : Int64)) = r421
              refine g_lload X50 hx (hb hby at_424) rfl rfl ?_
              refine g_lcmp X50 hx (hb hby at_426) rfl  ?_
              have hc427 : r421 = ((9223372036854775800 : Int64) + ((r_3 - (48 : Int32)).toInt64)) := hr421.symm.trans (own_m3 hc403 (if_pos ⟨hc349, hc354, hc361⟩).symm)
              refine g_ifN X50 hx (hb hby at_427) rfl (XT.ll_ne_f hc427) ?_
              refine g_iconst X50 hx (r := (1 : Int32)) (hb hby at_430) rfl rfl ?_
              refine g_goto X50 hx (q := 435) (hb hby at_431) (by decide) (by decide) ?_
              exact g_retN X50 hx (t := .boolean) (r := (1 : Int32)) hret (by simp) hlk (hb hby at_435) rfl (by decide) (by decide) (by rw [eh50]; exact ⟨rfl, N50⟩)
            · skip
              refine g_icmpY X42 hx (q := 411) (hb hby at_403) (XT.ii_ne_t hc403) (by decide) (by decide) ?_
              refine g_ldc2 X42 hx hZ hown (hw _ (List.mem_of_getElem? (i := 12) rfl)) (hb hby at_411) rfl ?_
              refine g_lstore X42 hx (Ls' := #[.val (.int p0), .val (.int p1), .val (.int p2), .val (.int v3), .val (.int r_1), .val (.int r_2), .val (.int r_3), .val (.int r_4), .val (.int v43), .val (.ref b22), .val (.int (r_2 - (48 : Int32))), .val (.int (r_3 - (48 : Int32))), .val (.long ((9223372036854775800 : Int64) + ((r_3 - (48 : Int32)).toInt64))), .second, .val (.long (-1 : Int64)), .second]) (hb hby at_414) rfl rfl ?_
              refine g_aload X42 hx (hb hby at_416) rfl rfl rfl ?_
              refine g_iconst X42 hx (r := (0 : Int32)) (hb hby at_418) rfl rfl ?_
              refine g_bipush X42 hx (r := (20 : Int32)) (hb hby at_419) rfl rfl ?_
              refine g_static X42 hx hZ hown (hw _ (List.mem_of_getElem? (i := 16) rfl)) (hw _ (List.mem_of_getElem? (i := 17) rfl)) (hw _ (List.mem_of_getElem? (i := 18) rfl)) (hw _ (List.mem_of_getElem? (i := 19) rfl)) (by decide) (rm_parse l Z a0 hw b22 ka22 (20 : Int32) [(.int r_1), (.int (57 : Int32)), (.int (50 : Int32)), (.int (50 : Int32)), (.int (51 : Int32)), (.int (51 : Int32)), (.int (55 : Int32)), (.int (50 : Int32)), (.int (48 : Int32)), (.int (51 : Int32)), (.int (54 : Int32)), (.int (56 : Int32)), (.int (53 : Int32)), (.int (52 : Int32)), (.int (55 : Int32)), (.int (55 : Int32)), (.int (53 : Int32)), (.int (56 : Int32)), (.int r_2), (.int r_3)] (0 : Int32) (20 : Int32) (own_f [r_1, (57 : Int32), (50 : Int32), (50 : Int32), (51 : Int32), (51 : Int32), (55 : Int32), (50 : Int32), (48 : Int32), (51 : Int32), (54 : Int32), (56 : Int32), (53 : Int32), (52 : Int32), (55 : Int32), (55 : Int32), (53 : Int32), (56 : Int32), r_2, r_3]) h42 n0 Z42 Vn42 (by decide) (by decide) (by decide) (own_fv [r_1, (57 : Int32), (50 : Int32), (50 : Int32), (51 : Int32), (51 : Int32), (55 : Int32), (50 : Int32), (48 : Int32), (51 : Int32), (54 : Int32), (56 : Int32), (53 : Int32), (52 : Int32), (55 : Int32), (55 : Int32), (53 : Int32), (56 : Int32), r_2, r_3])) (by rw [hml]; rfl) e42 [(.ref b22), (.int (0 : Int32)), (.int (20 : Int32))] rfl rfl (W := 0) (Nat.le_of_eq rfl) (by decide) (by decide) (by decide) (by decide) (lenOf pd_3 rfl) (hb hby at_421) rfl fun v51 T51 L51 X51 hQ51 => ?_
              obtain ⟨rfl, Nq51, eh51⟩ := hQ51
              have N51 := Fr.app N42 Nq51
              show Ga _ _ _ _ _ _ _ _ _ _ _ [(.long (if (0 : Int32) = (20 : Int32) then (-1 : Int64) else own_pr (own_f [r_1, (57 : Int32), (50 : Int32), (50 : Int32), (51 : Int32), (51 : Int32), (55 : Int32), (50 : Int32), (48 : Int32), (51 : Int32), (54 : Int32), (56 : Int32), (53 : Int32), (52 : Int32), (55 : Int32), (55 : Int32), (53 : Int32), (56 : Int32), r_2, r_3]) ((20 : Int32).toNatClampNeg - (0 : Int32).toNatClampNeg) (0 : Int32).toNatClampNeg (0 : Int64)))]
              generalize hr421 : (if (0 : Int32) = (20 : Int32) then (-1 : Int64) else own_pr (own_f [r_1, (57 : Int32), (50 : Int32), (50 : Int32), (51 : Int32), (51 : Int32), (55 : Int32), (50 : Int32), (48 : Int32), (51 : Int32), (54 : Int32), (56 : Int32), (53 : Int32), (52 : Int32), (55 : Int32), (55 : Int32), (53 : Int32), (56 : Int32), r_2, r_3]) ((20 : Int32).toNatClampNeg - (0 : Int32).toNatClampNeg) (0 : Int32).toNatClampNeg (0 : Int64)) = r421
              refine g_lload X51 hx (hb hby at_424) rfl rfl ?_
              refine g_lcmp X51 hx (hb hby at_426) rfl  ?_
              have hc427 : r421 = (-1 : Int64) := hr421.symm.trans (own_m4 hc403)
              refine g_ifN X51 hx (hb hby at_427) rfl (XT.ll_ne_f hc427) ?_
              refine g_iconst X51 hx (r := (1 : Int32)) (hb hby at_430) rfl rfl ?_
              refine g_goto X51 hx (q := 435) (hb hby at_431) (by decide) (by decide) ?_
              exact g_retN X51 hx (t := .boolean) (r := (1 : Int32)) hret (by simp) hlk (hb hby at_435) rfl (by decide) (by decide) (by rw [eh51]; exact ⟨rfl, N51⟩)
    · skip
      refine g_ifY X42 hx (q := 373) (hb hby at_349) (XT.i0_ne_t hc349) (by decide) (by decide) ?_
      refine g_iload X42 hx (hb hby at_373) rfl rfl ?_
      refine g_iconst X42 hx (r := (2 : Int32)) (hb hby at_375) rfl rfl ?_
      by_cases hc376 : v43 = (2 : Int32)
      · skip
        refine g_icmpN X42 hx (hb hby at_376) rfl (XT.ii_ne_f hc376) ?_
        refine g_aload X42 hx (hb hby at_379) rfl rfl rfl ?_
        refine g_iconst X42 hx (r := (1 : Int32)) (hb hby at_381) rfl rfl ?_
        refine g_bipush X42 hx (r := (20 : Int32)) (hb hby at_382) rfl rfl ?_
        refine g_static X42 hx hZ hown (hw _ (List.mem_of_getElem? (i := 16) rfl)) (hw _ (List.mem_of_getElem? (i := 17) rfl)) (hw _ (List.mem_of_getElem? (i := 18) rfl)) (hw _ (List.mem_of_getElem? (i := 19) rfl)) (by decide) (rm_parse l Z a0 hw b22 ka22 (20 : Int32) [(.int r_1), (.int (57 : Int32)), (.int (50 : Int32)), (.int (50 : Int32)), (.int (51 : Int32)), (.int (51 : Int32)), (.int (55 : Int32)), (.int (50 : Int32)), (.int (48 : Int32)), (.int (51 : Int32)), (.int (54 : Int32)), (.int (56 : Int32)), (.int (53 : Int32)), (.int (52 : Int32)), (.int (55 : Int32)), (.int (55 : Int32)), (.int (53 : Int32)), (.int (56 : Int32)), (.int r_2), (.int r_3)] (1 : Int32) (20 : Int32) (own_f [r_1, (57 : Int32), (50 : Int32), (50 : Int32), (51 : Int32), (51 : Int32), (55 : Int32), (50 : Int32), (48 : Int32), (51 : Int32), (54 : Int32), (56 : Int32), (53 : Int32), (52 : Int32), (55 : Int32), (55 : Int32), (53 : Int32), (56 : Int32), r_2, r_3]) h42 n0 Z42 Vn42 (by decide) (by decide) (by decide) (own_fv [r_1, (57 : Int32), (50 : Int32), (50 : Int32), (51 : Int32), (51 : Int32), (55 : Int32), (50 : Int32), (48 : Int32), (51 : Int32), (54 : Int32), (56 : Int32), (53 : Int32), (52 : Int32), (55 : Int32), (55 : Int32), (53 : Int32), (56 : Int32), r_2, r_3])) (by rw [hml]; rfl) e42 [(.ref b22), (.int (1 : Int32)), (.int (20 : Int32))] rfl rfl (W := 0) (Nat.le_of_eq rfl) (by decide) (by decide) (by decide) (by decide) (lenOf pd_3 rfl) (hb hby at_384) rfl fun v52 T52 L52 X52 hQ52 => ?_
        obtain ⟨rfl, Nq52, eh52⟩ := hQ52
        have N52 := Fr.app N42 Nq52
        show Ga _ _ _ _ _ _ _ _ _ _ _ [(.long (if (1 : Int32) = (20 : Int32) then (-1 : Int64) else own_pr (own_f [r_1, (57 : Int32), (50 : Int32), (50 : Int32), (51 : Int32), (51 : Int32), (55 : Int32), (50 : Int32), (48 : Int32), (51 : Int32), (54 : Int32), (56 : Int32), (53 : Int32), (52 : Int32), (55 : Int32), (55 : Int32), (53 : Int32), (56 : Int32), r_2, r_3]) ((20 : Int32).toNatClampNeg - (1 : Int32).toNatClampNeg) (1 : Int32).toNatClampNeg (0 : Int64)))]
        generalize hr384 : (if (1 : Int32) = (20 : Int32) then (-1 : Int64) else own_pr (own_f [r_1, (57 : Int32), (50 : Int32), (50 : Int32), (51 : Int32), (51 : Int32), (55 : Int32), (50 : Int32), (48 : Int32), (51 : Int32), (54 : Int32), (56 : Int32), (53 : Int32), (52 : Int32), (55 : Int32), (55 : Int32), (53 : Int32), (56 : Int32), r_2, r_3]) ((20 : Int32).toNatClampNeg - (1 : Int32).toNatClampNeg) (1 : Int32).toNatClampNeg (0 : Int64)) = r384
        refine g_lload X52 hx (hb hby at_387) rfl rfl ?_
        refine g_lcmp X52 hx (hb hby at_389) rfl  ?_
        have hc390 : r384 = (-1 : Int64) := hr384.symm.trans (own_m2 (if_neg (fun h => hc349 h.1)).symm)
        refine g_ifN X52 hx (hb hby at_390) rfl (XT.ll_ne_f hc390) ?_
        refine g_iconst X52 hx (r := (1 : Int32)) (hb hby at_393) rfl rfl ?_
        refine g_goto X52 hx (q := 398) (hb hby at_394) (by decide) (by decide) ?_
        exact g_retN X52 hx (t := .boolean) (r := (1 : Int32)) hret (by simp) hlk (hb hby at_398) rfl (by decide) (by decide) (by rw [eh52]; exact ⟨rfl, N52⟩)
      · skip
        refine g_icmpY X42 hx (q := 399) (hb hby at_376) (XT.ii_ne_t hc376) (by decide) (by decide) ?_
        refine g_iload X42 hx (hb hby at_399) rfl rfl ?_
        refine g_bipush X42 hx (r := (48 : Int32)) (hb hby at_401) rfl rfl ?_
        by_cases hc403 : r_1 = (48 : Int32)
        · skip
          refine g_icmpN X42 hx (hb hby at_403) rfl (XT.ii_ne_f hc403) ?_
          refine g_lload X42 hx (hb hby at_406) rfl rfl ?_
          refine g_goto X42 hx (q := 414) (hb hby at_408) (by decide) (by decide) ?_
          refine g_lstore X42 hx (Ls' := #[.val (.int p0), .val (.int p1), .val (.int p2), .val (.int v3), .val (.int r_1), .val (.int r_2), .val (.int r_3), .val (.int r_4), .val (.int v43), .val (.ref b22), .val (.int (r_2 - (48 : Int32))), .val (.int (r_3 - (48 : Int32))), .val (.long (-1 : Int64)), .second, .val (.long (-1 : Int64)), .second]) (hb hby at_414) rfl rfl ?_
          refine g_aload X42 hx (hb hby at_416) rfl rfl rfl ?_
          refine g_iconst X42 hx (r := (0 : Int32)) (hb hby at_418) rfl rfl ?_
          refine g_bipush X42 hx (r := (20 : Int32)) (hb hby at_419) rfl rfl ?_
          refine g_static X42 hx hZ hown (hw _ (List.mem_of_getElem? (i := 16) rfl)) (hw _ (List.mem_of_getElem? (i := 17) rfl)) (hw _ (List.mem_of_getElem? (i := 18) rfl)) (hw _ (List.mem_of_getElem? (i := 19) rfl)) (by decide) (rm_parse l Z a0 hw b22 ka22 (20 : Int32) [(.int r_1), (.int (57 : Int32)), (.int (50 : Int32)), (.int (50 : Int32)), (.int (51 : Int32)), (.int (51 : Int32)), (.int (55 : Int32)), (.int (50 : Int32)), (.int (48 : Int32)), (.int (51 : Int32)), (.int (54 : Int32)), (.int (56 : Int32)), (.int (53 : Int32)), (.int (52 : Int32)), (.int (55 : Int32)), (.int (55 : Int32)), (.int (53 : Int32)), (.int (56 : Int32)), (.int r_2), (.int r_3)] (0 : Int32) (20 : Int32) (own_f [r_1, (57 : Int32), (50 : Int32), (50 : Int32), (51 : Int32), (51 : Int32), (55 : Int32), (50 : Int32), (48 : Int32), (51 : Int32), (54 : Int32), (56 : Int32), (53 : Int32), (52 : Int32), (55 : Int32), (55 : Int32), (53 : Int32), (56 : Int32), r_2, r_3]) h42 n0 Z42 Vn42 (by decide) (by decide) (by decide) (own_fv [r_1, (57 : Int32), (50 : Int32), (50 : Int32), (51 : Int32), (51 : Int32), (55 : Int32), (50 : Int32), (48 : Int32), (51 : Int32), (54 : Int32), (56 : Int32), (53 : Int32), (52 : Int32), (55 : Int32), (55 : Int32), (53 : Int32), (56 : Int32), r_2, r_3])) (by rw [hml]; rfl) e42 [(.ref b22), (.int (0 : Int32)), (.int (20 : Int32))] rfl rfl (W := 0) (Nat.le_of_eq rfl) (by decide) (by decide) (by decide) (by decide) (lenOf pd_3 rfl) (hb hby at_421) rfl fun v53 T53 L53 X53 hQ53 => ?_
          obtain ⟨rfl, Nq53, eh53⟩ := hQ53
          have N53 := Fr.app N42 Nq53
          show Ga _ _ _ _ _ _ _ _ _ _ _ [(.long (if (0 : Int32) = (20 : Int32) then (-1 : Int64) else own_pr (own_f [r_1, (57 : Int32), (50 : Int32), (50 : Int32), (51 : Int32), (51 : Int32), (55 : Int32), (50 : Int32), (48 : Int32), (51 : Int32), (54 : Int32), (56 : Int32), (53 : Int32), (52 : Int32), (55 : Int32), (55 : Int32), (53 : Int32), (56 : Int32), r_2, r_3]) ((20 : Int32).toNatClampNeg - (0 : Int32).toNatClampNeg) (0 : Int32).toNatClampNeg (0 : Int64)))]
          generalize hr421 : (if (0 : Int32) = (20 : Int32) then (-1 : Int64) else own_pr (own_f [r_1, (57 : Int32), (50 : Int32), (50 : Int32), (51 : Int32), (51 : Int32), (55 : Int32), (50 : Int32), (48 : Int32), (51 : Int32), (54 : Int32), (56 : Int32), (53 : Int32), (52 : Int32), (55 : Int32), (55 : Int32), (53 : Int32), (56 : Int32), r_2, r_3]) ((20 : Int32).toNatClampNeg - (0 : Int32).toNatClampNeg) (0 : Int32).toNatClampNeg (0 : Int64)) = r421
          refine g_lload X53 hx (hb hby at_424) rfl rfl ?_
          refine g_lcmp X53 hx (hb hby at_426) rfl  ?_
          have hc427 : r421 = (-1 : Int64) := hr421.symm.trans (own_m3 hc403 (if_neg (fun h => hc349 h.1)).symm)
          refine g_ifN X53 hx (hb hby at_427) rfl (XT.ll_ne_f hc427) ?_
          refine g_iconst X53 hx (r := (1 : Int32)) (hb hby at_430) rfl rfl ?_
          refine g_goto X53 hx (q := 435) (hb hby at_431) (by decide) (by decide) ?_
          exact g_retN X53 hx (t := .boolean) (r := (1 : Int32)) hret (by simp) hlk (hb hby at_435) rfl (by decide) (by decide) (by rw [eh53]; exact ⟨rfl, N53⟩)
        · skip
          refine g_icmpY X42 hx (q := 411) (hb hby at_403) (XT.ii_ne_t hc403) (by decide) (by decide) ?_
          refine g_ldc2 X42 hx hZ hown (hw _ (List.mem_of_getElem? (i := 12) rfl)) (hb hby at_411) rfl ?_
          refine g_lstore X42 hx (Ls' := #[.val (.int p0), .val (.int p1), .val (.int p2), .val (.int v3), .val (.int r_1), .val (.int r_2), .val (.int r_3), .val (.int r_4), .val (.int v43), .val (.ref b22), .val (.int (r_2 - (48 : Int32))), .val (.int (r_3 - (48 : Int32))), .val (.long (-1 : Int64)), .second, .val (.long (-1 : Int64)), .second]) (hb hby at_414) rfl rfl ?_
          refine g_aload X42 hx (hb hby at_416) rfl rfl rfl ?_
          refine g_iconst X42 hx (r := (0 : Int32)) (hb hby at_418) rfl rfl ?_
          refine g_bipush X42 hx (r := (20 : Int32)) (hb hby at_419) rfl rfl ?_
          refine g_static X42 hx hZ hown (hw _ (List.mem_of_getElem? (i := 16) rfl)) (hw _ (List.mem_of_getElem? (i := 17) rfl)) (hw _ (List.mem_of_getElem? (i := 18) rfl)) (hw _ (List.mem_of_getElem? (i := 19) rfl)) (by decide) (rm_parse l Z a0 hw b22 ka22 (20 : Int32) [(.int r_1), (.int (57 : Int32)), (.int (50 : Int32)), (.int (50 : Int32)), (.int (51 : Int32)), (.int (51 : Int32)), (.int (55 : Int32)), (.int (50 : Int32)), (.int (48 : Int32)), (.int (51 : Int32)), (.int (54 : Int32)), (.int (56 : Int32)), (.int (53 : Int32)), (.int (52 : Int32)), (.int (55 : Int32)), (.int (55 : Int32)), (.int (53 : Int32)), (.int (56 : Int32)), (.int r_2), (.int r_3)] (0 : Int32) (20 : Int32) (own_f [r_1, (57 : Int32), (50 : Int32), (50 : Int32), (51 : Int32), (51 : Int32), (55 : Int32), (50 : Int32), (48 : Int32), (51 : Int32), (54 : Int32), (56 : Int32), (53 : Int32), (52 : Int32), (55 : Int32), (55 : Int32), (53 : Int32), (56 : Int32), r_2, r_3]) h42 n0 Z42 Vn42 (by decide) (by decide) (by decide) (own_fv [r_1, (57 : Int32), (50 : Int32), (50 : Int32), (51 : Int32), (51 : Int32), (55 : Int32), (50 : Int32), (48 : Int32), (51 : Int32), (54 : Int32), (56 : Int32), (53 : Int32), (52 : Int32), (55 : Int32), (55 : Int32), (53 : Int32), (56 : Int32), r_2, r_3])) (by rw [hml]; rfl) e42 [(.ref b22), (.int (0 : Int32)), (.int (20 : Int32))] rfl rfl (W := 0) (Nat.le_of_eq rfl) (by decide) (by decide) (by decide) (by decide) (lenOf pd_3 rfl) (hb hby at_421) rfl fun v54 T54 L54 X54 hQ54 => ?_
          obtain ⟨rfl, Nq54, eh54⟩ := hQ54
          have N54 := Fr.app N42 Nq54
          show Ga _ _ _ _ _ _ _ _ _ _ _ [(.long (if (0 : Int32) = (20 : Int32) then (-1 : Int64) else own_pr (own_f [r_1, (57 : Int32), (50 : Int32), (50 : Int32), (51 : Int32), (51 : Int32), (55 : Int32), (50 : Int32), (48 : Int32), (51 : Int32), (54 : Int32), (56 : Int32), (53 : Int32), (52 : Int32), (55 : Int32), (55 : Int32), (53 : Int32), (56 : Int32), r_2, r_3]) ((20 : Int32).toNatClampNeg - (0 : Int32).toNatClampNeg) (0 : Int32).toNatClampNeg (0 : Int64)))]
          generalize hr421 : (if (0 : Int32) = (20 : Int32) then (-1 : Int64) else own_pr (own_f [r_1, (57 : Int32), (50 : Int32), (50 : Int32), (51 : Int32), (51 : Int32), (55 : Int32), (50 : Int32), (48 : Int32), (51 : Int32), (54 : Int32), (56 : Int32), (53 : Int32), (52 : Int32), (55 : Int32), (55 : Int32), (53 : Int32), (56 : Int32), r_2, r_3]) ((20 : Int32).toNatClampNeg - (0 : Int32).toNatClampNeg) (0 : Int32).toNatClampNeg (0 : Int64)) = r421
          refine g_lload X54 hx (hb hby at_424) rfl rfl ?_
          refine g_lcmp X54 hx (hb hby at_426) rfl  ?_
          have hc427 : r421 = (-1 : Int64) := hr421.symm.trans (own_m4 hc403)
          refine g_ifN X54 hx (hb hby at_427) rfl (XT.ll_ne_f hc427) ?_
          refine g_iconst X54 hx (r := (1 : Int32)) (hb hby at_430) rfl rfl ?_
          refine g_goto X54 hx (q := 435) (hb hby at_431) (by decide) (by decide) ?_
          exact g_retN X54 hx (t := .boolean) (r := (1 : Int32)) hret (by simp) hlk (hb hby at_435) rfl (by decide) (by decide) (by rw [eh54]; exact ⟨rfl, N54⟩)
set_option maxRecDepth 65536 in
set_option maxHeartbeats 40000000 in
theorem comes_1 {Post : Tables → Env → Array Value → State → Outcome → State → Prop} (hpost : ∀ tb e args s v u, (limb_1_1.after args s (.returned v) u = true ∧ limb_1_2.after args s (.returned v) u = true ∧ True) → FrameEnd s (.returned v) u (Jvm.fieldLocs frame_1_writes args s ++ Jvm.arrayLocs frame_1_arrays args s ++ Jvm.staticLocs frame_1_statics s) 16 128 → Post tb e args s (.returned v) u) :
    ArmFor flags0 classFile x code maxLocals ret World_1 tables_1 room_1 Calls_1 rest_1 Pre_1 Post := by
  intro l hfl _ _ p e ha hc hk s m args below hf hA hF happ hP
  obtain ⟨hcalls, hrest, hpre⟩ := hP
  obtain ⟨-, -, -, hnamed, -, -, -, hat⟩ := (Spec.applies_iff hf).mp happ
  obtain ⟨hg, hn⟩ := and_e (Cond.before_iff.mp (show (Jvm.Cond.and given_1 narrow_1).before args s = true from hpre))
  obtain ⟨hcn, hg1⟩ := and_e hg
  obtain ⟨k1, hg2⟩ := and_e hg1
  obtain ⟨k2, hg3⟩ := and_e hg2
  have k3 := hg3
  obtain ⟨w0, w1, w2, rfl⟩ : ∃ w0 w1 w2 : Value, args = #[w0, w1, w2] := by
    have hs : args.size = 3 := by simpa [Cond.value, given_1] using hcn
    obtain ⟨L⟩ := args
    match L, hs with
    | [w0, w1, w2], _ => exact ⟨w0, w1, w2, rfl⟩
  have hw := fun d (hd : d ∈ tables_1) => atoms_spec (ws := Jvm.Cond.code x code maxLocals ret :: tables_1) hat d (List.mem_cons_of_mem _ hd)
  have hfit : Fit s := fun {y c} hc i hi => by
    obtain ⟨ha, rfl⟩ := Array.getElem?_eq_some_iff.mp hc
    have q := List.all_eq_true.mp ((Array.all_eq_true_iff_forall_mem.mp hF) _ (Array.getElem_mem ha)) i (List.mem_range.mpr hi)
    simpa [Array.getElem?_eq_getElem hi] using q
  obtain ⟨i0, ei0⟩ := is_v k1
  obtain rfl : w0 = (.int i0) := Option.some.inj ei0
  obtain ⟨i1, ei1⟩ := is_v k2
  obtain rfl : w1 = (.int i1) := Option.some.inj ei1
  obtain ⟨i2, ei2⟩ := is_v k3
  obtain rfl : w2 = (.int i2) := Option.some.inj ei2
  obtain ⟨n, o, h1, h2, h3, _, L, rfl, ⟨rfl, N⟩, hq⟩ := rm_law l s _ hw tables_1 i0 i1 i2 s.heap s.heap.size (Nat.le_refl _) p e ha hc hk s m _ below hf ((Spec.applies_iff_loose hf).mp happ).1 ⟨rfl, State.Warmed39.refl s, rfl⟩ trivial
  refine ⟨n, _, h1, h2, h3, hpost _ _ _ _ _ _ ⟨Cond.after_iff.mpr rfl, Cond.after_iff.mpr (eq_i res_at (Term.int_eval (1)) rfl), trivial⟩ ⟨hq.1, hq.2.1, (hq.2.2.sift fun y hy => Or.inr (N y hy)).mono (by decide) (by decide)⟩⟩
theorem main_1_1 : Claimed_1_1 := comes_1 fun _ _ _ _ _ _ h hF => ⟨h.1, hF⟩
theorem main_1_2 : Claimed_1_2 := comes_1 fun _ _ _ _ _ _ h hF => ⟨h.2.1, hF⟩
end Jvm.Pilot.@@N@@
namespace Jvm.Pilot.@@N@@
open Jvm Jvm.ClassFile Sem Op Lib Jvm.Free Jvm.Stand Jvm.Pilot.@@N@@.Jvm.D
/-! MADE BY PROGRAM (witnessworld.py) out of the Statement's table words and the real class files: 10 classes; the members and pool entries that the words name. The judged class is class 1, her method 1. -/
namespace start1
open Jvm.ClassFile
def u (s : String) : CpInfo := .utf8 (stringToUtf16 s)
/-- a pool by its gaps: so many unusable entries, then the entry; so many at the end -/
def gap : Nat → List CpInfo → List CpInfo
  | 0, r => r
  | n + 1, r => .unusable :: gap n r
def poolList (es : List (Nat × CpInfo)) (last : Nat) : List CpInfo := es.foldr (fun e r => gap e.1 (e.2 :: r)) (gap last [])
def pool (es : List (Nat × CpInfo)) (last : Nat) : Array CpInfo := ⟨poolList es last⟩
def fileOf (pool : Array CpInfo) (this : Nat) (attrs : Array Attribute := #[]) (ms : Array MethodInfo := #[]) (fl : Nat := 33) (sup : Nat := 0) (ifs : Array Nat := #[]) (fds : Array FieldInfo := #[]) : ClassFile where
  minorVersion := 0
  majorVersion := 65
  constantPool := pool
  accessFlags := fl
  thisClass := this
  superClass := sup
  interfaces := ifs
  fields := fds
  methods := ms
  attributes := attrs
def plain (name : String) (sup : Option ClassId) : Class where
  name := name
  kind := .ordinary
  loader := none
  accessFlags := 33
  super := sup
  interfaces := #[]
  cf := none
  fields := #[]
  methods := #[]
  instanceTypes := #[]
  staticTypes := #[]
  resolved := #[]
  callSites := []
  init := .initialized
  statics := none
  mirror := none

def pool0 : Array CpInfo := pool [(5, u "<init>"), (0, u "()V"), (1, .class_ 10), (1, u "java/lang/Object")] 113

def k0m0 : Method := { name := "<init>", desc := "()V", sig := { parameters := [], returnType := none }, accessFlags := 1, code := none }
/-- java/lang/Object -/
def k0 : Class := { plain "java/lang/Object" none with
  accessFlags := 33
  interfaces := #[]
  cf := some (fileOf pool0 8 #[] #[{ accessFlags := 1, nameIndex := 5, descriptorIndex := 6, attributes := #[] }] 33 0 #[] #[])
  fields := #[]
  methods := #[k0m0]
  instanceTypes := #[]
  staticTypes := #[]
  resolved := Array.replicate 124 none
  statics := none }

def pool1 : Array CpInfo := pool [(2, .class_ 4), (1, u "java/lang/Object"), (0, u "<init>"), (0, u "()V"), (0, .methodref 8 9), (0, .class_ 10), (0, .nameAndType 11 12), (0, u "com/example/ely/ely/probe/UnsignedDecimalParsePinLaw"), (0, u "pick"), (0, u "(IIII)B"), (0, .methodref 14 15), (0, .class_ 16), (0, .nameAndType 17 18), (0, u "java/lang/Math"), (0, u "min"), (0, u "(II)I"), (0, .methodref 14 20), (0, .nameAndType 21 18), (0, u "max"), (0, .long 18446744073709551615), (1, .methodref 8 25), (0, .nameAndType 26 27), (0, u "step"), (0, u "(J[BIII)J"), (0, .methodref 29 30), (0, .class_ 31), (0, .nameAndType 32 33), (0, u "com/example/ely/ely/probe/UnsignedDecimal"), (0, u "parse"), (0, u "([BII)J"), (0, .long 9223372036854775800), (1, .long 10), (3, u "law"), (0, u "(III)Z")] 5

def k1m0 : Method := { name := "<init>", desc := "()V", sig := { parameters := [], returnType := none }, accessFlags := 2, code := none }
def k1c1 : Code := { maxStack := 6, maxLocals := 16, code := code, exceptionTable := #[], attributes := #[] }
def k1m1 : Method := { name := "law", desc := "(III)Z", sig := { parameters := [.int, .int, .int], returnType := some .boolean }, accessFlags := 9, code := some k1c1 }
def k1c2 : Code := { maxStack := 4, maxLocals := 4, code := method_3_code, exceptionTable := #[], attributes := #[] }
def k1m2 : Method := { name := "pick", desc := "(IIII)B", sig := { parameters := [.int, .int, .int, .int], returnType := some .byte }, accessFlags := 10, code := some k1c2 }
def k1c3 : Code := { maxStack := 4, maxLocals := 7, code := method_4_code, exceptionTable := #[], attributes := #[] }
def k1m3 : Method := { name := "step", desc := "(J[BIII)J", sig := { parameters := [.long, (.array .byte), .int, .int, .int], returnType := some .long }, accessFlags := 10, code := some k1c3 }
/-- com/example/ely/ely/probe/UnsignedDecimalParsePinLaw -/
def k1 : Class := { plain "com/example/ely/ely/probe/UnsignedDecimalParsePinLaw" (some 0) with
  accessFlags := 49
  interfaces := #[]
  cf := some (fileOf pool1 8 #[] #[{ accessFlags := 2, nameIndex := 5, descriptorIndex := 6, attributes := #[] }, { accessFlags := 9, nameIndex := 40, descriptorIndex := 41, attributes := #[] }, { accessFlags := 10, nameIndex := 11, descriptorIndex := 12, attributes := #[] }, { accessFlags := 10, nameIndex := 26, descriptorIndex := 27, attributes := #[] }] 49 2 #[] #[])
  fields := #[]
  methods := #[k1m0, k1m1, k1m2, k1m3]
  instanceTypes := #[]
  staticTypes := #[]
  resolved := Array.replicate 47 none
  statics := none }

def pool2 : Array CpInfo := pool [(1, .class_ 2), (0, u "java/lang/Math"), (1, .class_ 6), (1, u "java/lang/Object"), (0, u "<init>"), (0, u "()V"), (89, .class_ 100), (1, u "java/lang/Math$RandomNumberGeneratorHolder"), (71, u "negativeZeroFloatBits"), (0, u "J"), (2, u "negativeZeroDoubleBits"), (21, u "max"), (2, u "min"), (43, u "$assertionsDisabled"), (0, u "Z"), (88, u "(II)I"), (2, u "twoToTheDoubleScaleDown"), (0, u "D"), (4, u "twoToTheDoubleScaleUp"), (9, u "E"), (3, u "PI"), (2, u "TAU"), (2, u "DEGREES_TO_RADIANS"), (0, u "RADIANS_TO_DEGREES")] 94

def k2m0 : Method := { name := "<init>", desc := "()V", sig := { parameters := [], returnType := none }, accessFlags := 2, code := none }
def k2c1 : Code := { maxStack := 2, maxLocals := 2, code := jdk_29_method_65_code, exceptionTable := #[], attributes := #[] }
def k2m1 : Method := { name := "max", desc := "(II)I", sig := { parameters := [.int, .int], returnType := some .int }, accessFlags := 9, code := some k2c1 }
def k2c2 : Code := { maxStack := 2, maxLocals := 2, code := jdk_29_method_69_code, exceptionTable := #[], attributes := #[] }
def k2m2 : Method := { name := "min", desc := "(II)I", sig := { parameters := [.int, .int], returnType := some .int }, accessFlags := 9, code := some k2c2 }
/-- java/lang/Math -/
def k2 : Class := { plain "java/lang/Math" (some 0) with
  accessFlags := 49
  interfaces := #[]
  cf := some (fileOf pool2 1 #[.nestMembers #[98]] #[{ accessFlags := 2, nameIndex := 7, descriptorIndex := 8, attributes := #[] }, { accessFlags := 9, nameIndex := 198, descriptorIndex := 335, attributes := #[] }, { accessFlags := 9, nameIndex := 201, descriptorIndex := 335, attributes := #[] }] 49 4 #[] #[{ accessFlags := 25, nameIndex := 354, descriptorIndex := 339, attributes := #[] }, { accessFlags := 25, nameIndex := 358, descriptorIndex := 339, attributes := #[] }, { accessFlags := 25, nameIndex := 361, descriptorIndex := 339, attributes := #[] }, { accessFlags := 26, nameIndex := 364, descriptorIndex := 339, attributes := #[] }, { accessFlags := 26, nameIndex := 365, descriptorIndex := 339, attributes := #[] }, { accessFlags := 26, nameIndex := 172, descriptorIndex := 173, attributes := #[] }, { accessFlags := 26, nameIndex := 176, descriptorIndex := 173, attributes := #[] }, { accessFlags := 8, nameIndex := 344, descriptorIndex := 339, attributes := #[] }, { accessFlags := 8, nameIndex := 338, descriptorIndex := 339, attributes := #[] }, { accessFlags := 4120, nameIndex := 245, descriptorIndex := 246, attributes := #[] }])
  fields := #[{ name := "E", type := .double, accessFlags := 25, slot := 0, constantValue := 0 }, { name := "PI", type := .double, accessFlags := 25, slot := 1, constantValue := 0 }, { name := "TAU", type := .double, accessFlags := 25, slot := 2, constantValue := 0 }, { name := "DEGREES_TO_RADIANS", type := .double, accessFlags := 26, slot := 3, constantValue := 0 }, { name := "RADIANS_TO_DEGREES", type := .double, accessFlags := 26, slot := 4, constantValue := 0 }, { name := "negativeZeroFloatBits", type := .long, accessFlags := 26, slot := 5, constantValue := 0 }, { name := "negativeZeroDoubleBits", type := .long, accessFlags := 26, slot := 6, constantValue := 0 }, { name := "twoToTheDoubleScaleUp", type := .double, accessFlags := 8, slot := 7, constantValue := 0 }, { name := "twoToTheDoubleScaleDown", type := .double, accessFlags := 8, slot := 8, constantValue := 0 }, { name := "$assertionsDisabled", type := .boolean, accessFlags := 4120, slot := 9, constantValue := 0 }]
  methods := #[k2m0, k2m1, k2m2]
  instanceTypes := #[]
  staticTypes := #[.double, .double, .double, .double, .double, .long, .long, .double, .double, .boolean]
  resolved := Array.replicate 460 none
  statics := none }

def pool3 : Array CpInfo := pool [(2, .class_ 4), (1, u "java/lang/Object"), (0, u "<init>"), (0, u "()V"), (13, .class_ 22), (1, u "com/example/ely/ely/probe/UnsignedDecimal"), (0, u "parse"), (0, u "([BII)J"), (10, .long 18446744073709551615), (3, .long 922337203685477580), (1, .long 7), (1, .long 10)] 9

def k3m0 : Method := { name := "<init>", desc := "()V", sig := { parameters := [], returnType := none }, accessFlags := 2, code := none }
def k3c1 : Code := { maxStack := 4, maxLocals := 8, code := prog_69_method_3_code, exceptionTable := #[], attributes := #[] }
def k3m1 : Method := { name := "parse", desc := "([BII)J", sig := { parameters := [(.array .byte), .int, .int], returnType := some .long }, accessFlags := 8, code := some k3c1 }
/-- com/example/ely/ely/probe/UnsignedDecimal -/
def k3 : Class := { plain "com/example/ely/ely/probe/UnsignedDecimal" (some 0) with
  accessFlags := 48
  interfaces := #[]
  cf := some (fileOf pool3 20 #[] #[{ accessFlags := 2, nameIndex := 5, descriptorIndex := 6, attributes := #[] }, { accessFlags := 8, nameIndex := 23, descriptorIndex := 24, attributes := #[] }] 48 2 #[] #[])
  fields := #[]
  methods := #[k3m0, k3m1]
  instanceTypes := #[]
  staticTypes := #[]
  resolved := Array.replicate 53 none
  statics := none }

def pool4 : Array CpInfo := pool [(1, u "java/lang/Cloneable"), (0, .class_ 1), (0, u "java/lang/Object"), (0, .class_ 3)] 3

/-- java/lang/Cloneable -/
def k4 : Class := { plain "java/lang/Cloneable" (some 0) with
  accessFlags := 1537
  interfaces := #[]
  cf := some (fileOf pool4 2 #[] #[] 1537 4 #[] #[])
  fields := #[]
  methods := #[]
  instanceTypes := #[]
  staticTypes := #[]
  resolved := Array.replicate 8 none
  statics := none }

def pool5 : Array CpInfo := pool [(1, u "java/io/Serializable"), (0, .class_ 1), (0, u "java/lang/Object"), (0, .class_ 3)] 3

/-- java/io/Serializable -/
def k5 : Class := { plain "java/io/Serializable" (some 0) with
  accessFlags := 1537
  interfaces := #[]
  cf := some (fileOf pool5 2 #[] #[] 1537 4 #[] #[])
  fields := #[]
  methods := #[]
  instanceTypes := #[]
  staticTypes := #[]
  resolved := Array.replicate 8 none
  statics := none }

/-- the primitive byte -/
def k6 : Class := { plain "byte" none with kind := .primitive 'B', accessFlags := 0x411 }
/-- [B -/
def k7 : Class := { plain "[B" (some 0) with kind := .array 6 .byte, interfaces := #[4, 5], accessFlags := 1041 }

/-- the primitive int -/
def k8 : Class := { plain "int" none with kind := .primitive 'I', accessFlags := 0x411 }
/-- [I -/
def k9 : Class := { plain "[I" (some 0) with kind := .array 8 .int, interfaces := #[4, 5], accessFlags := 1041 }

def heap : Heap := #[]
def classes : Array Class := #[k0, k1, k2, k3, k4, k5, k6, k7, k8, k9]
def interned : List (Array UInt16 × Addr) := []
def slotsUsed : Nat := 0
def theMethod : MethodId := ⟨1, 1⟩
def args0 : Array Value := #[.int 5, .int 5, .int 5]
def aboutOver (below : List Frame) : State where
  vm := { classes := classes, interned := interned.toArray }
  heap := heap
  slotsUsed := slotsUsed
  threads := #[{ frames := .invoking theMethod args0 :: below }]
def below0 : List Frame := [.native { method := ⟨0, 0⟩, args := #[] }]
def about1 : State := aboutOver below0
def p0 : Program := .bare "" "" ""
def e0 : Env := launch0.env 0 0 0
theorem w_frames : about1.frames = Frame.invoking theMethod args0 :: below0 := rfl
set_option maxRecDepth 65536 in
theorem w_args : argsFit about1.vm theMethod args0 = true := by decide +kernel
set_option maxRecDepth 65536 in
theorem w_heap : heapFits about1 = true := by decide +kernel
set_option maxRecDepth 65536 in
theorem w_runnable : about1.curStatus? = some .runnable := by decide +kernel
set_option maxRecDepth 65536 in
theorem w_alone : about1.alone = true := by decide +kernel
set_option maxRecDepth 65536 in
theorem w_named : about1.methodNamed? x = some theMethod := by decide +kernel
set_option maxRecDepth 65536 in
theorem w_hears : about1.hears theMethod below0 = true := by decide +kernel
set_option maxRecDepth 65536 in
theorem w_ripe : about1.ripe theMethod args0 below0 = true := by decide +kernel
theorem w_running : about1.status = .running := rfl
set_option maxRecDepth 65536 in
theorem w_room : about1.hasRoom e0.platform room_1 = true :=
  launch0.hasRoom_least _ room_1 (by decide +kernel) (by decide +kernel) (by decide +kernel) (by decide +kernel) (by decide +kernel) (by decide +kernel)
theorem allAtoms_all (ts : List Jvm.Cond) (a : Array Jvm.Value) (st : Jvm.State) : (allAtoms ts).before a st = ts.all (fun c => c.before a st) := by
  induction ts with
  | nil => rfl
  | cons c t ih =>
    show (Jvm.Cond.and c (allAtoms t)).before a st = _
    rw [Jvm.Cond.before_and, ih, List.all_cons]
def words1 : List Jvm.Cond := Jvm.Cond.code x code maxLocals ret :: tables_1
/-- a 'code' word, met by the world's own term for the bytes: nothing is compared byte by byte -/
theorem code_word {y : MethodName} {bytes : ByteArray} {mx : Nat} {rt : Option FieldType} {a : Array Value} {s : State} {m : MethodId} {meth : Method} {c : Code} (h1 : s.methodNamed? y = some m) (h2 : s.vm.method? m = some meth) (h3 : meth.code = some c) (h4 : c.code = bytes)
    (h5 : (c.maxLocals == mx && c.exceptionTable.isEmpty && decide (c.maxStack ≤ mostOperands) && decide (meth.sig.returnType = rt) && !meth.locks && decide (parseMethodDescriptor y.desc = some meth.sig)) = true) : (Jvm.Cond.code y bytes mx rt).before a s = true := by
  simp only [Bool.and_eq_true, beq_iff_eq, Bool.not_eq_true', decide_eq_true_eq] at h5
  obtain ⟨⟨⟨⟨⟨g1, g2⟩, g3⟩, g4⟩, g5⟩, g6⟩ := h5
  simp [Cond.before, Cond.holds, Cond.value, h1, h2, h3, h4, g1, g2, g3, g4, g5, g6]
def isCode : Jvm.Cond → Bool
  | .code _ _ _ _ => true
  | _ => false
theorem all_split {L : List Jvm.Cond} {P : Jvm.Cond → Bool} (h1 : L.all (fun c => isCode c || P c) = true) (h2 : ∀ c ∈ L.filter isCode, P c = true) : L.all P = true := by
  refine List.all_eq_true.mpr fun c hc => ?_
  have h := List.all_eq_true.mp h1 c hc
  rcases Bool.eq_false_or_eq_true (isCode c) with hi | hi
  · exact h2 c (List.mem_filter.mpr ⟨hc, hi⟩)
  · simpa [hi] using h
set_option maxRecDepth 65536 in
theorem w_c0 : (Jvm.Cond.code x code maxLocals ret).before args0 about1 = true := code_word (m := ⟨1, 1⟩) (meth := k1m1) (c := k1c1) (by decide +kernel) rfl rfl rfl (by decide +kernel)
set_option maxRecDepth 65536 in
theorem w_c1 : (Jvm.Cond.code ({ cls := "com/example/ely/ely/probe/UnsignedDecimalParsePinLaw", name := "pick", desc := "(IIII)B" } : Jvm.MethodName) method_3_code (4 : Nat) (Option.some Jvm.ClassFile.FieldType.byte)).before args0 about1 = true := code_word (m := ⟨1, 2⟩) (meth := k1m2) (c := k1c2) (by decide +kernel) rfl rfl rfl (by decide +kernel)
set_option maxRecDepth 65536 in
theorem w_c2 : (Jvm.Cond.code ({ cls := "java/lang/Math", name := "min", desc := "(II)I" } : Jvm.MethodName) jdk_29_method_69_code (2 : Nat) (Option.some Jvm.ClassFile.FieldType.int)).before args0 about1 = true := code_word (m := ⟨2, 2⟩) (meth := k2m2) (c := k2c2) (by decide +kernel) rfl rfl rfl (by decide +kernel)
set_option maxRecDepth 65536 in
theorem w_c3 : (Jvm.Cond.code ({ cls := "java/lang/Math", name := "max", desc := "(II)I" } : Jvm.MethodName) jdk_29_method_65_code (2 : Nat) (Option.some Jvm.ClassFile.FieldType.int)).before args0 about1 = true := code_word (m := ⟨2, 1⟩) (meth := k2m1) (c := k2c1) (by decide +kernel) rfl rfl rfl (by decide +kernel)
set_option maxRecDepth 65536 in
theorem w_c4 : (Jvm.Cond.code ({ cls := "com/example/ely/ely/probe/UnsignedDecimalParsePinLaw", name := "step", desc := "(J[BIII)J" } : Jvm.MethodName) method_4_code (7 : Nat) (Option.some Jvm.ClassFile.FieldType.long)).before args0 about1 = true := code_word (m := ⟨1, 3⟩) (meth := k1m3) (c := k1c3) (by decide +kernel) rfl rfl rfl (by decide +kernel)
set_option maxRecDepth 65536 in
theorem w_c5 : (Jvm.Cond.code ({ cls := "com/example/ely/ely/probe/UnsignedDecimal", name := "parse", desc := "([BII)J" } : Jvm.MethodName) prog_69_method_3_code (8 : Nat) (Option.some Jvm.ClassFile.FieldType.long)).before args0 about1 = true := code_word (m := ⟨3, 1⟩) (meth := k3m1) (c := k3c1) (by decide +kernel) rfl rfl rfl (by decide +kernel)
def codes1 : List Jvm.Cond := [Jvm.Cond.code x code maxLocals ret, Jvm.Cond.code ({ cls := "com/example/ely/ely/probe/UnsignedDecimalParsePinLaw", name := "pick", desc := "(IIII)B" } : Jvm.MethodName) method_3_code (4 : Nat) (Option.some Jvm.ClassFile.FieldType.byte), Jvm.Cond.code ({ cls := "java/lang/Math", name := "min", desc := "(II)I" } : Jvm.MethodName) jdk_29_method_69_code (2 : Nat) (Option.some Jvm.ClassFile.FieldType.int), Jvm.Cond.code ({ cls := "java/lang/Math", name := "max", desc := "(II)I" } : Jvm.MethodName) jdk_29_method_65_code (2 : Nat) (Option.some Jvm.ClassFile.FieldType.int), Jvm.Cond.code ({ cls := "com/example/ely/ely/probe/UnsignedDecimalParsePinLaw", name := "step", desc := "(J[BIII)J" } : Jvm.MethodName) method_4_code (7 : Nat) (Option.some Jvm.ClassFile.FieldType.long), Jvm.Cond.code ({ cls := "com/example/ely/ely/probe/UnsignedDecimal", name := "parse", desc := "([BII)J" } : Jvm.MethodName) prog_69_method_3_code (8 : Nat) (Option.some Jvm.ClassFile.FieldType.long)]
set_option maxRecDepth 65536 in
theorem codes_eq : words1.filter isCode = codes1 := rfl
theorem w_codes : ∀ c ∈ words1.filter isCode, c.before args0 about1 = true := by
  rw [codes_eq]
  intro c hc
  simp only [codes1, List.mem_cons, List.not_mem_nil, or_false] at hc
  rcases hc with rfl | rfl | rfl | rfl | rfl | rfl
  · exact w_c0
  · exact w_c1
  · exact w_c2
  · exact w_c3
  · exact w_c4
  · exact w_c5
set_option maxRecDepth 65536 in
theorem w_t1 : (words1.take 24).all (fun c => isCode c || c.before args0 about1) = true := by decide +kernel
set_option maxRecDepth 65536 in
theorem w_t2 : (words1.drop 24).all (fun c => isCode c || c.before args0 about1) = true := by decide +kernel
theorem w_tables : (allAtoms (Jvm.Cond.code x code maxLocals ret :: tables_1)).before args0 about1 = true := by
  rw [allAtoms_all]
  show words1.all (fun c => c.before args0 about1) = true
  refine all_split ?_ w_codes
  rw [← List.take_append_drop 24 words1, List.all_append, w_t1, w_t2]
  rfl
set_option maxRecDepth 65536 in
theorem w_case : (Jvm.Cond.and given_1 narrow_1).before args0 about1 = true := by decide +kernel
theorem w_applies : (headSpec (Jvm.Cond.code x code maxLocals ret :: tables_1) room_1).applies x e0.platform about1 = true :=
  (Spec.applies_iff w_frames).mpr ⟨w_running, w_runnable, w_alone, w_named, w_hears, w_ripe, w_room, w_tables⟩
theorem atStart : AtStart classFile x code maxLocals ret World_1 tables_1 room_1 Calls_1 rest_1 Pre_1 launch0 p0 e0 about1 theMethod args0 below0 :=
  ⟨lists_1, trivial, launch0.admits_env _ _ _, launch0.least_env, fairChoices_fair.cas, fairChoices_fair.clock, w_frames, w_args, w_heap, w_applies, trivial, trivial, w_case⟩
end start1
theorem witness_1 : WitnessClaimed_1 := ⟨start1.p0, start1.e0, start1.about1, start1.theMethod, start1.args0, start1.below0, start1.atStart⟩
end Jvm.Pilot.@@N@@

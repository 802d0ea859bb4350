import JvmDerived
import JvmDerived.Pilot.@@N@@Statement
import JvmDerived.Pilot.@@N@@Code
set_option linter.unusedVariables false
set_option linter.unusedSimpArgs false
namespace Jvm.Pilot.@@N@@
open Jvm Jvm.ClassFile Sem Op Lib Jvm.Free Jvm.Stand Jvm.LawKit Jvm.RoadKit Bundle Jvm.Pilot.@@N@@.Jvm.D
def Go (p : Program) (e : Env) (below : List Frame) (s : State) (Q : Option Value → Heap → List Loc → Prop) (C S : Nat) (V : State) : Prop :=
  ∃ (U : State) (o : Outcome), Steps p.tables e below V U ∧ U.status = .running ∧ Ended U below o ∧ ∃ v L, o = .returned v ∧ Q v U.heap L ∧ FrameEnd s o U L C S
def Ga (p : Program) (e : Env) (below : List Frame) (s : State) (Q : Option Value → Heap → List Loc → Prop) (C S : Nat) (T : State) (m : MethodId) (pc : Nat) (Ls : Array Slot) (st : List Value) : Prop :=
  Go p e below s Q C S (T.setTop (mkF m pc Ls st))
abbrev Ct (l : Launch) (Z : State) (y : MethodName) (bytes : ByteArray) (maxL : Nat) (ret : Option FieldType) (ws : List Jvm.Cond) (rm : Room) (as' : Array Value) (h0 : Heap) (Q : Option Value → Heap → List Loc → Prop) : Prop :=
  MetFree l y (head1 (Jvm.Cond.code y bytes maxL ret :: ws) rm) (fun a U => a = as' ∧ Z.Warmed39 U.vm ∧ U.heap = h0) (fun _ _ _ _ _ => True) (fun _ U o U' => ∃ v L, o = .returned v ∧ Q v U'.heap L ∧ FrameEnd U o U' L rm.cells rm.slots)
section GoKit
variable {p : Program} {l : Launch} {e : Env} {R : Room} {s : State} {m : MethodId} {args : Array Value} {below : List Frame} {meth : Method} {c : Code} {T T' : State} {locs : List Loc} {cells slots : Nat} {Q : Option Value → Heap → List Loc → Prop} {C S : Nat} {Z : State} {a0 : Array Value} {h : Heap} {pc q pc' : Nat} {Ls Ls' : Array Slot} {st st' : List Value} {own : String}
theorem Ga.stp (k : ∀ t, Steps p.tables e below (T'.setTop (mkF m pc' Ls' st')) t → Steps p.tables e below (T.setTop (mkF m pc Ls st)) t) (g : Ga p e below s Q C S T' m pc' Ls' st') : Ga p e below s Q C S T m pc Ls st := by
  obtain ⟨U, o, h, r⟩ := g
  exact ⟨U, o, k _ h, r⟩
theorem own_body {y : MethodName} {bytes : ByteArray} {maxL : Nat} {ret : Option FieldType} {ws : List Jvm.Cond} {rm : Room} {h0 : Heap} {as' : Array Value} (hpl : plainFor y = true) (hef : ∀ m, entryFrame m as' maxL = mkF m 0 Ls [])
    (body : ∀ (p : Program) (e : Env) (s : State) (m : MethodId) (below : List Frame) (meth : Method) (c : Code) (T : State), p.tables.exec = Jvm.exec → c.code = bytes → c.maxLocals = maxL → Z.Warmed39 s.vm → s.vm.findClass y.cls = some m.cls → meth.name = y.name → meth.sig.returnType = ret → meth.locks = false →
      Stand p l e rm s m as' below meth c T [] 0 0 → T.heap = h0 → Ga p e below s Q rm.cells rm.slots T m 0 Ls []) : Ct l Z y bytes maxL ret ws rm as' h0 Q := by
  refine MetFree.of_bodySF hpl hisR ?_
  intro p e s m args below meth c s₁ Bd hml0 hP hK
  obtain ⟨rfl, hZ, hh⟩ := hP
  have X0 : Stand p l e rm s m args below meth c s₁ [] 0 0 := Stand.of_body Bd
  have e0 : s₁.heap = h0 := by rw [← hh, Bd.state]; rfl
  obtain ⟨U, o, g1, g2⟩ := body p e s m below meth c s₁ Bd.exec Bd.bytes hml0 hZ (findClass_of_methodNamed Bd.named) (name_of_methodNamed Bd.named Bd.method).1 Bd.returns (BodyLoose.notSynchronized Bd) X0 e0
  exact ⟨U, o, castTop (hef m) g1, g2⟩
theorem Ga.out (X : Stand p l e R s m args below meth c T locs cells slots) {v : Option Value} (hlk : meth.locks = false) (hv : meth.sig.returnType = none → v = none) (hc : cells ≤ C) (hs : slots ≤ S) (hq : Q v T.heap locs)
    (k : ∀ fs, (∀ (f : JFrame) (acts : List Action), f.method = m → f.locked = none → f.entered = [] → (doReturn e (T.setTop f) acts v).1 = T.setFrames fs) → Steps p.tables e below (T.setTop (mkF m pc Ls st)) (T.setFrames fs)) : Ga p e below s Q C S T m pc Ls st := by
  obtain ⟨fs, hr, hrun, hended, hW, hsame⟩ := X.leave (v := v) hv hlk
  exact ⟨_, _, k fs hr, hrun, hended, _, _, rfl, hq, ⟨_, rfl⟩, hW, hsame.mono hc hs⟩
theorem g_iloadN (X : Stand p l e R s m args below meth c T locs cells slots) (hx : p.tables.exec = Jvm.exec) {k : Fin 4} {v : Int32} (hd : decode c.code pc = .ok (.iload_n k, 1)) (hp : pc + 1 = q) (hl : Ls[k.val]? = some (.val (.int v))) (g : Ga p e below s Q C S T m q Ls (.int v :: st)) : Ga p e below s Q C S T m pc Ls st := by
  subst hp
  exact Ga.stp (fun _ k => XS.iloadN X.here hx rfl hd hl k) g
theorem g_iload (X : Stand p l e R s m args below meth c T locs cells slots) (hx : p.tables.exec = Jvm.exec) {k : Nat} {v : Int32} (hd : decode c.code pc = .ok (.iload k, 2)) (hp : pc + 2 = q) (hl : Ls[k]? = some (.val (.int v))) (g : Ga p e below s Q C S T m q Ls (.int v :: st)) : Ga p e below s Q C S T m pc Ls st := by
  subst hp
  exact Ga.stp (fun _ k => XS.iload X.here hx rfl hd hl k) g
theorem g_lloadN (X : Stand p l e R s m args below meth c T locs cells slots) (hx : p.tables.exec = Jvm.exec) {k : Fin 4} {v : Int64} (hd : decode c.code pc = .ok (.lload_n k, 1)) (hp : pc + 1 = q) (hl : Ls[k.val]? = some (.val (.long v))) (g : Ga p e below s Q C S T m q Ls (.long v :: st)) : Ga p e below s Q C S T m pc Ls st := by
  subst hp
  exact Ga.stp (fun _ k => XS.lloadN X.here hx rfl hd hl k) g
theorem g_aloadN (X : Stand p l e R s m args below meth c T locs cells slots) (hx : p.tables.exec = Jvm.exec) {k : Fin 4} {v : Value} (hd : decode c.code pc = .ok (.aload_n k, 1)) (hp : pc + 1 = q) (hl : Ls[k.val]? = some (.val v)) (hv : v.isRef = true) (g : Ga p e below s Q C S T m q Ls (v :: st)) : Ga p e below s Q C S T m pc Ls st := by
  subst hp
  exact Ga.stp (fun _ k => XS.aloadN X.here hx rfl hd hl hv k) g
theorem g_aload (X : Stand p l e R s m args below meth c T locs cells slots) (hx : p.tables.exec = Jvm.exec) {k : Nat} {v : Value} (hd : decode c.code pc = .ok (.aload k, 2)) (hp : pc + 2 = q) (hl : Ls[k]? = some (.val v)) (hv : v.isRef = true) (g : Ga p e below s Q C S T m q Ls (v :: st)) : Ga p e below s Q C S T m pc Ls st := by
  subst hp
  exact Ga.stp (fun _ k => XS.aload X.here hx rfl hd hl hv k) g
theorem g_istoreN (X : Stand p l e R s m args below meth c T locs cells slots) (hx : p.tables.exec = Jvm.exec) {k : Fin 4} {x : Int32} (hd : decode c.code pc = .ok (.istore_n k, 1)) (hp : pc + 1 = q) (hl : storeLocals Ls k.val (.int x) = some Ls') (g : Ga p e below s Q C S T m q Ls' st) : Ga p e below s Q C S T m pc Ls (.int x :: st) := by
  subst hp
  exact Ga.stp (fun _ k => XS.istoreN X.here hx rfl hd rfl hl k) g
theorem g_lstoreN (X : Stand p l e R s m args below meth c T locs cells slots) (hx : p.tables.exec = Jvm.exec) {k : Fin 4} {x : Int64} (hd : decode c.code pc = .ok (.lstore_n k, 1)) (hp : pc + 1 = q) (hl : storeLocals Ls k.val (.long x) = some Ls') (g : Ga p e below s Q C S T m q Ls' st) : Ga p e below s Q C S T m pc Ls (.long x :: st) := by
  subst hp
  exact Ga.stp (fun _ k => XS.lstoreN X.here hx rfl hd rfl hl k) g
theorem g_astoreN (X : Stand p l e R s m args below meth c T locs cells slots) (hx : p.tables.exec = Jvm.exec) {k : Fin 4} {x : Value} (hd : decode c.code pc = .ok (.astore_n k, 1)) (hp : pc + 1 = q) (hv : x.isRef = true) (hl : storeLocals Ls k.val x = some Ls') (g : Ga p e below s Q C S T m q Ls' st) : Ga p e below s Q C S T m pc Ls (x :: st) := by
  subst hp
  exact Ga.stp (fun _ k => XS.astoreN X.here hx rfl hd rfl hv hl k) g
theorem g_astore (X : Stand p l e R s m args below meth c T locs cells slots) (hx : p.tables.exec = Jvm.exec) {k : Nat} {x : Value} (hd : decode c.code pc = .ok (.astore k, 2)) (hp : pc + 2 = q) (hv : x.isRef = true) (hl : storeLocals Ls k x = some Ls') (g : Ga p e below s Q C S T m q Ls' st) : Ga p e below s Q C S T m pc Ls (x :: st) := by
  subst hp
  exact Ga.stp (fun _ k => XS.astore X.here hx rfl hd rfl hv hl k) g
theorem g_iconst (X : Stand p l e R s m args below meth c T locs cells slots) (hx : p.tables.exec = Jvm.exec) {i : Int} {r : Int32} (hd : decode c.code pc = .ok (.iconst i, 1)) (hp : pc + 1 = q) (hr : Int32.ofInt i = r) (g : Ga p e below s Q C S T m q Ls (.int r :: st)) : Ga p e below s Q C S T m pc Ls st := by
  subst hp hr
  exact Ga.stp (fun _ k => XS.iconst X.here hx rfl hd k) g
theorem g_bipush (X : Stand p l e R s m args below meth c T locs cells slots) (hx : p.tables.exec = Jvm.exec) {i : Int} {r : Int32} (hd : decode c.code pc = .ok (.bipush i, 2)) (hp : pc + 2 = q) (hr : (Int8.ofInt i).toInt32 = r) (g : Ga p e below s Q C S T m q Ls (.int r :: st)) : Ga p e below s Q C S T m pc Ls st := by
  subst hp hr
  exact Ga.stp (fun _ k => XS.bipush X.here hx rfl hd k) g
theorem g_sipush (X : Stand p l e R s m args below meth c T locs cells slots) (hx : p.tables.exec = Jvm.exec) {i : Int} {r : Int32} (hd : decode c.code pc = .ok (.sipush i, 3)) (hp : pc + 3 = q) (hr : (Int16.ofInt i).toInt32 = r) (g : Ga p e below s Q C S T m q Ls (.int r :: st)) : Ga p e below s Q C S T m pc Ls st := by
  subst hp hr
  exact Ga.stp (fun _ k => XS.sipush X.here hx rfl hd k) g
theorem g_iadd (X : Stand p l e R s m args below meth c T locs cells slots) (hx : p.tables.exec = Jvm.exec) {x y r : Int32} (hd : decode c.code pc = .ok (.iadd, 1)) (hp : pc + 1 = q) (hr : x + y = r) (g : Ga p e below s Q C S T m q Ls (.int r :: st)) : Ga p e below s Q C S T m pc Ls (.int y :: .int x :: st) := by
  subst hp hr
  exact Ga.stp (fun _ k => XS.iadd X.here hx rfl hd rfl k) g
theorem g_iand (X : Stand p l e R s m args below meth c T locs cells slots) (hx : p.tables.exec = Jvm.exec) {x y r : Int32} (hd : decode c.code pc = .ok (.iand, 1)) (hp : pc + 1 = q) (hr : x &&& y = r) (g : Ga p e below s Q C S T m q Ls (.int r :: st)) : Ga p e below s Q C S T m pc Ls (.int y :: .int x :: st) := by
  subst hp hr
  exact Ga.stp (fun _ k => XS.iand X.here hx rfl hd rfl k) g
theorem g_ior (X : Stand p l e R s m args below meth c T locs cells slots) (hx : p.tables.exec = Jvm.exec) {x y r : Int32} (hd : decode c.code pc = .ok (.ior, 1)) (hp : pc + 1 = q) (hr : x ||| y = r) (g : Ga p e below s Q C S T m q Ls (.int r :: st)) : Ga p e below s Q C S T m pc Ls (.int y :: .int x :: st) := by
  subst hp hr
  exact Ga.stp (fun _ k => XS.ior X.here hx rfl hd rfl k) g
theorem g_ishl (X : Stand p l e R s m args below meth c T locs cells slots) (hx : p.tables.exec = Jvm.exec) {x y r : Int32} (hd : decode c.code pc = .ok (.ishl, 1)) (hp : pc + 1 = q) (hr : x <<< (y &&& 31) = r) (g : Ga p e below s Q C S T m q Ls (.int r :: st)) : Ga p e below s Q C S T m pc Ls (.int y :: .int x :: st) := by
  subst hp hr
  exact Ga.stp (fun _ k => XS.ishl X.here hx rfl hd rfl k) g
theorem g_iushr (X : Stand p l e R s m args below meth c T locs cells slots) (hx : p.tables.exec = Jvm.exec) {x y r : Int32} (hd : decode c.code pc = .ok (.iushr, 1)) (hp : pc + 1 = q) (hr : (x.toUInt32 >>> (y &&& 31).toUInt32).toInt32 = r) (g : Ga p e below s Q C S T m q Ls (.int r :: st)) : Ga p e below s Q C S T m pc Ls (.int y :: .int x :: st) := by
  subst hp hr
  exact Ga.stp (fun _ k => XS.iushr X.here hx rfl hd rfl k) g
theorem g_ladd (X : Stand p l e R s m args below meth c T locs cells slots) (hx : p.tables.exec = Jvm.exec) {x y r : Int64} (hd : decode c.code pc = .ok (.ladd, 1)) (hp : pc + 1 = q) (hr : x + y = r) (g : Ga p e below s Q C S T m q Ls (.long r :: st)) : Ga p e below s Q C S T m pc Ls (.long y :: .long x :: st) := by
  subst hp hr
  exact Ga.stp (fun _ k => XS.ladd X.here hx rfl hd rfl k) g
theorem g_lmul (X : Stand p l e R s m args below meth c T locs cells slots) (hx : p.tables.exec = Jvm.exec) {x y r : Int64} (hd : decode c.code pc = .ok (.lmul, 1)) (hp : pc + 1 = q) (hr : x * y = r) (g : Ga p e below s Q C S T m q Ls (.long r :: st)) : Ga p e below s Q C S T m pc Ls (.long y :: .long x :: st) := by
  subst hp hr
  exact Ga.stp (fun _ k => XS.lmul X.here hx rfl hd rfl k) g
theorem g_land (X : Stand p l e R s m args below meth c T locs cells slots) (hx : p.tables.exec = Jvm.exec) {x y r : Int64} (hd : decode c.code pc = .ok (.land, 1)) (hp : pc + 1 = q) (hr : x &&& y = r) (g : Ga p e below s Q C S T m q Ls (.long r :: st)) : Ga p e below s Q C S T m pc Ls (.long y :: .long x :: st) := by
  subst hp hr
  exact Ga.stp (fun _ k => XS.land X.here hx rfl hd rfl k) g
theorem g_i2b (X : Stand p l e R s m args below meth c T locs cells slots) (hx : p.tables.exec = Jvm.exec) {x : Int32} {r : Int32} (hd : decode c.code pc = .ok (.i2b, 1)) (hp : pc + 1 = q) (hr : x.toInt8.toInt32 = r) (g : Ga p e below s Q C S T m q Ls (.int r :: st)) : Ga p e below s Q C S T m pc Ls (.int x :: st) := by
  subst hp hr
  exact Ga.stp (fun _ k => XS.i2b X.here hx rfl hd rfl k) g
theorem g_i2l (X : Stand p l e R s m args below meth c T locs cells slots) (hx : p.tables.exec = Jvm.exec) {x : Int32} {r : Int64} (hd : decode c.code pc = .ok (.i2l, 1)) (hp : pc + 1 = q) (hr : x.toInt64 = r) (g : Ga p e below s Q C S T m q Ls (.long r :: st)) : Ga p e below s Q C S T m pc Ls (.int x :: st) := by
  subst hp hr
  exact Ga.stp (fun _ k => XS.i2l X.here hx rfl hd rfl k) g
theorem g_lcmp (X : Stand p l e R s m args below meth c T locs cells slots) (hx : p.tables.exec = Jvm.exec) {x y : Int64} (hd : decode c.code pc = .ok (.lcmp, 1)) (hp : pc + 1 = q)  (g : Ga p e below s Q C S T m q Ls (.int (XT.cmpL x y) :: st)) : Ga p e below s Q C S T m pc Ls (.long y :: .long x :: st) := by
  subst hp
  exact Ga.stp (fun _ k => XT.lcmp X.here hx rfl hd rfl k) g
theorem g_dup (X : Stand p l e R s m args below meth c T locs cells slots) (hx : p.tables.exec = Jvm.exec) {x : Value} (hd : decode c.code pc = .ok (.dup, 1)) (hp : pc + 1 = q) (hc : x.category = 1) (g : Ga p e below s Q C S T m q Ls (x :: x :: st)) : Ga p e below s Q C S T m pc Ls (x :: st) := by
  subst hp
  exact Ga.stp (fun _ k => XS.dup X.here hx rfl hd rfl hc k) g
theorem g_dup_x1 (X : Stand p l e R s m args below meth c T locs cells slots) (hx : p.tables.exec = Jvm.exec) {x y : Value} (hd : decode c.code pc = .ok (.dup_x1, 1)) (hp : pc + 1 = q) (hc : x.category = 1) (hc' : y.category = 1) (g : Ga p e below s Q C S T m q Ls (x :: y :: x :: st)) : Ga p e below s Q C S T m pc Ls (x :: y :: st) := by
  subst hp
  exact Ga.stp (fun _ k => XS.dupX1 X.here hx rfl hd rfl hc hc' k) g
theorem g_goto (X : Stand p l e R s m args below meth c T locs cells slots) (hx : p.tables.exec = Jvm.exec) {o : Int} (hd : decode c.code pc = .ok (.goto o, 3)) (ho : 0 ≤ (pc : Int) + o) (hp : ((pc : Int) + o).toNat = q) (g : Ga p e below s Q C S T m q Ls st) : Ga p e below s Q C S T m pc Ls st :=
  Ga.stp (fun _ k => XS.goto X.here hx rfl rfl hd ho hp k) g
theorem g_ifY (X : Stand p l e R s m args below meth c T locs cells slots) (hx : p.tables.exec = Jvm.exec) {cd : ClassFile.Cond} {x : Int32} {o : Int} (hd : decode c.code pc = .ok (.ifCond cd o, 3)) (hc : ifCond.holds cd x = true) (ho : 0 ≤ (pc : Int) + o) (hp : ((pc : Int) + o).toNat = q) (g : Ga p e below s Q C S T m q Ls st) : Ga p e below s Q C S T m pc Ls (.int x :: st) :=
  Ga.stp (fun _ k => XS.ifYes X.here hx rfl rfl hd rfl hc ho hp k) g
theorem g_ifN (X : Stand p l e R s m args below meth c T locs cells slots) (hx : p.tables.exec = Jvm.exec) {cd : ClassFile.Cond} {x : Int32} {o : Int} (hd : decode c.code pc = .ok (.ifCond cd o, 3)) (hp : pc + 3 = q) (hc : ifCond.holds cd x = false) (g : Ga p e below s Q C S T m q Ls st) : Ga p e below s Q C S T m pc Ls (.int x :: st) := by
  subst hp
  exact Ga.stp (fun _ k => XS.ifNo X.here hx rfl hd rfl hc k) g
theorem g_icmpY (X : Stand p l e R s m args below meth c T locs cells slots) (hx : p.tables.exec = Jvm.exec) {cd : ClassFile.Cond} {x y : Int32} {o : Int} (hd : decode c.code pc = .ok (.if_icmp cd o, 3)) (hc : if_icmp.holds cd x y = true) (ho : 0 ≤ (pc : Int) + o) (hp : ((pc : Int) + o).toNat = q) (g : Ga p e below s Q C S T m q Ls st) : Ga p e below s Q C S T m pc Ls (.int y :: .int x :: st) :=
  Ga.stp (fun _ k => XS.icmpYes X.here hx rfl rfl hd rfl hc ho hp k) g
theorem g_icmpN (X : Stand p l e R s m args below meth c T locs cells slots) (hx : p.tables.exec = Jvm.exec) {cd : ClassFile.Cond} {x y : Int32} {o : Int} (hd : decode c.code pc = .ok (.if_icmp cd o, 3)) (hp : pc + 3 = q) (hc : if_icmp.holds cd x y = false) (g : Ga p e below s Q C S T m q Ls st) : Ga p e below s Q C S T m pc Ls (.int y :: .int x :: st) := by
  subst hp
  exact Ga.stp (fun _ k => XS.icmpNo X.here hx rfl hd rfl hc k) g
theorem g_acmp (X : Stand p l e R s m args below meth c T locs cells slots) (hx : p.tables.exec = Jvm.exec) {cd : ClassFile.ACond} {x y : Value} {o : Int} {same : Bool} (hd : decode c.code pc = .ok (.if_acmp cd o, 3)) (h1 : x.isRef = true) (h2 : y.isRef = true) (hq : decide (x = y) = same) (ho : 0 ≤ (pc : Int) + o) (hp : q = if acV cd same = true then ((pc : Int) + o).toNat else pc + 3) (g : Ga p e below s Q C S T m q Ls st) : Ga p e below s Q C S T m pc Ls (y :: x :: st) :=
  Ga.stp (fun _ k => Jvm.RoadKit.acmp (g := mkF m pc Ls (y :: x :: st)) X hx rfl h1 h2 rfl hd rfl hq ho hp k) g
theorem g_retI (X : Stand p l e R s m args below meth c T locs cells slots) (hx : p.tables.exec = Jvm.exec) {z : Int32} (hret : meth.sig.returnType = some .int) (hlk : meth.locks = false) (hd : decode c.code pc = .ok (.ireturn, 1)) (hc : cells ≤ C) (hs : slots ≤ S) (hq : Q (some (.int z)) T.heap locs) : Ga p e below s Q C S T m pc Ls (.int z :: st) :=
  Ga.out X hlk (fun h => by rw [hret] at h; cases h) hc hs hq fun fs hr => retOut X hx hret rfl (Or.inl ⟨rfl, Or.inl rfl, z, rfl⟩) hd hr
theorem g_retN (X : Stand p l e R s m args below meth c T locs cells slots) (hx : p.tables.exec = Jvm.exec) {z r : Int32} {t : FieldType} (hret : meth.sig.returnType = some t) (ht : t = .boolean ∨ t = .byte ∨ t = .char ∨ t = .short) (hlk : meth.locks = false) (hd : decode c.code pc = .ok (.ireturn, 1)) (hr : nar t z = r) (hc : cells ≤ C) (hs : slots ≤ S) (hq : Q (some (.int r)) T.heap locs) : Ga p e below s Q C S T m pc Ls (.int z :: st) := by
  subst hr
  exact Ga.out X hlk (fun h => by rw [hret] at h; cases h) hc hs hq fun fs hr => retN X hx hret ht hd hr
theorem g_retR (X : Stand p l e R s m args below meth c T locs cells slots) (hx : p.tables.exec = Jvm.exec) {w : Value} {t : FieldType} (hret : meth.sig.returnType = some t) (hlk : meth.locks = false) (ht : t.isReference = true) (hn : narrow t w = w) (hw : w.isRef = true) (hd : decode c.code pc = .ok (.areturn, 1)) (hc : cells ≤ C) (hs : slots ≤ S) (hq : Q (some w) T.heap locs) : Ga p e below s Q C S T m pc Ls (w :: st) :=
  Ga.out X hlk (fun h => by rw [hret] at h; cases h) hc hs hq fun fs hr => retOut X hx hret hn (Or.inr (Or.inr (Or.inr (Or.inr ⟨rfl, ht, hw⟩)))) hd hr
theorem g_ret (X : Stand p l e R s m args below meth c T locs cells slots) (hx : p.tables.exec = Jvm.exec) (hret : meth.sig.returnType = none) (hlk : meth.locks = false) (hd : decode c.code pc = .ok (.return_, 1)) (hc : cells ≤ C) (hs : slots ≤ S) (hq : Q none T.heap locs) : Ga p e below s Q C S T m pc Ls [] :=
  Ga.out X hlk (fun _ => rfl) hc hs hq fun fs hr => X.returnOut hx hret hd hr
theorem g_ldcI (X : Stand p l e R s m args below meth c T locs cells slots) (hx : p.tables.exec = Jvm.exec) (hZ : Z.Warmed39 s.vm) (hown : s.vm.findClass own = some m.cls) {index : Nat} {v : Int32} (w : (Cond.constant own index v).before a0 Z = true) (hd : decode c.code pc = .ok (.ldc index, 2)) (hp : pc + 2 = q) (g : Ga p e below s Q C S T m q Ls (.int v :: st)) : Ga p e below s Q C S T m pc Ls st := by
  subst hp
  exact Ga.stp (fun t k => X.ldcInt hx hown (mvT hZ w) (g := mkF m pc Ls st) rfl hd t k) g
theorem g_ldc2 (X : Stand p l e R s m args below meth c T locs cells slots) (hx : p.tables.exec = Jvm.exec) (hZ : Z.Warmed39 s.vm) (hown : s.vm.findClass own = some m.cls) {index : Nat} {v : Int64} (w : (Cond.constantLong own index v).before a0 Z = true) (hd : decode c.code pc = .ok (.ldc2_w index, 3)) (hp : pc + 3 = q) (g : Ga p e below s Q C S T m q Ls (.long v :: st)) : Ga p e below s Q C S T m pc Ls st := by
  subst hp
  exact Ga.stp (fun t k => X.ldc2Long hx hown (mvT hZ w) (g := mkF m pc Ls st) rfl hd t k) g
theorem g_new (X : Stand p l e R s m args below meth c T locs cells slots) (hx : p.tables.exec = Jvm.exec) (hZ : Z.Warmed39 s.vm) (hown : s.vm.findClass own = some m.cls) {K : String} {index n : Nat} (w : (Cond.classLink own index K).before a0 Z = true) (wi : (Cond.instantiable K n).before a0 Z = true) (wz : (Cond.initialized K).before a0 Z = true) (eT : T.heap = h)
    (hd : decode c.code pc = .ok (.new index, 3)) (hp : pc + 3 = q) (hc : cells + 1 ≤ R.cells) (hl : slots + n ≤ R.slots)
    (k : ∀ T' h' b, Stand p l e R s m args below meth c T' locs (cells + 1) (slots + n) → T'.heap = h' → b = h.size → Ext h h' → Exa Z h' b K → (∀ {O nm d : String} {ty : FieldType}, Laid Z a0 K O nm d → parseFieldDescriptor d = some ty → Fld Z h' b O nm d (defaultValue ty)) → Ga p e below s Q C S T' m q Ls (.ref b :: st)) : Ga p e below s Q C S T m pc Ls st := by
  subst hp
  obtain ⟨T', h', X', e', E', A', D', -, sx⟩ := newO X hx hZ hown w wi wz eT (g := mkF m pc Ls st) rfl hd hc hl
  exact Ga.stp sx (k T' h' _ X' e' rfl E' A' D')
theorem g_getF (X : Stand p l e R s m args below meth c T locs cells slots) (hx : p.tables.exec = Jvm.exec) (hZ : Z.Warmed39 s.vm) (hown : s.vm.findClass own = some m.cls) {R0 O n d host : String} {index : Nat} (w : (Cond.fieldLink own index R0 n d).before a0 Z = true ∨ (Cond.fieldLinkNest own index R0 n d host).before a0 Z = true) (via : Via Z R0 O n d) (eT : T.heap = h) {a : Addr} {v : Value} (F : Fld Z h a O n d v)
    (hd : decode c.code pc = .ok (.getfield index, 3)) (hp : pc + 3 = q) (k : ∀ T', Stand p l e R s m args below meth c T' locs cells slots → T'.heap = h → Ga p e below s Q C S T' m q Ls (v :: st)) : Ga p e below s Q C S T m pc Ls (.ref a :: st) := by
  subst hp
  obtain ⟨T', X', e', sx⟩ := getF X hx hZ hown w via eT F (g := mkF m pc Ls (.ref a :: st)) rfl rfl hd
  exact Ga.stp sx (k T' X' e')
theorem g_putF (X : Stand p l e R s m args below meth c T locs cells slots) (hx : p.tables.exec = Jvm.exec) (hZ : Z.Warmed39 s.vm) (hown : s.vm.findClass own = some m.cls) {R0 O n d host K : String} {index kk : Nat} {ty : FieldType} (w : (Cond.fieldLink own index R0 n d).before a0 Z = true ∨ (Cond.fieldLinkNest own index R0 n d host).before a0 Z = true) (via : Via Z R0 O n d) (eT : T.heap = h) {a : Addr} {v old : Value} (F : Fld Z h a O n d old) (E : Exa Z h a K)
    (L : (Cond.lays K O n d).before a0 Z = true ∨ ((Cond.laysFinal K O n d).before a0 Z = true ∧ own = O ∧ meth.name = "<init>")) (wi : (Cond.instantiable K kk).before a0 Z = true) (hty : parseFieldDescriptor d = some ty) (hn : narrow ty v = v) (hf : fits ty v = true)
    (hd : decode c.code pc = .ok (.putfield index, 3)) (hp : pc + 3 = q) (k : ∀ T' h', Stand p l e R s m args below meth c T' (locs ++ [⟨a, Jvm.RoadKit.slotOf Z O n d⟩]) cells slots → T'.heap = h' → Wr h h' a (Jvm.RoadKit.slotOf Z O n d) v → Fld Z h' a O n d v → Ga p e below s Q C S T' m q Ls st) : Ga p e below s Q C S T m pc Ls (v :: .ref a :: st) := by
  subst hp
  obtain ⟨T', h', X', e', W', sx⟩ := putF X hx hZ hown w via eT F E L wi hty hn hf (g := mkF m pc Ls (v :: .ref a :: st)) rfl rfl hd
  exact Ga.stp sx (k T' h' X' e' W' (F.same W'))
theorem g_initO (X : Stand p l e R s m args below meth c T locs cells slots) (hx : p.tables.exec = Jvm.exec) (hZ : Z.Warmed39 s.vm) (hown : s.vm.findClass own = some m.cls) {idx : Nat} (w1 : (Cond.methodLink own idx Lib.objectInit).before a0 Z = true) (w2 : (Cond.instanceMethod Lib.objectInit).before a0 Z = true) (w3 : (Cond.code Lib.objectInit ⟨#[0xb1]⟩ 1 none).before a0 Z = true) (eT : T.heap = h) (hsz : Ls.size = c.maxLocals) {a : Addr}
    (hd : decode c.code pc = .ok (.invokespecial idx, 3)) (hp : pc + 3 = q) (hf : 1 ≤ R.frames) {W : Nat} (hW : (st.map fun v => v.category).sum ≤ W) (hl : W + 12 ≤ R.locals) (k : ∀ T', Stand p l e R s m args below meth c T' locs cells slots → T'.heap = h → Ga p e below s Q C S T' m q Ls st) : Ga p e below s Q C S T m pc Ls (.ref a :: st) := by
  subst hp
  obtain ⟨T', X', e', sx⟩ := initO X hx hZ hown w1 w2 w3 eT (g := mkF m pc Ls (.ref a :: st)) rfl hsz rfl hd hf (W := W) (by show 2 * 0 + _ ≤ _; omega) hl
  exact Ga.stp sx (k T' X' e')
theorem g_static (X : Stand p l e R s m args below meth c T locs cells slots) (hx : p.tables.exec = Jvm.exec) (hZ : Z.Warmed39 s.vm) (hown : s.vm.findClass own = some m.cls) {index : Nat} {y : MethodName} {ret : Option FieldType} {bytes : ByteArray} {maxL : Nat} {rm : Room} {as' : Array Value} {Q' : Option Value → Heap → List Loc → Prop} (w1 : (Cond.methodLink own index y).before a0 Z = true) (w2 : (Cond.static y).before a0 Z = true) (w3 : (Cond.initialized y.cls).before a0 Z = true) (w4 : (Cond.code y bytes maxL ret).before a0 Z = true) (hy : y.cls ≠ "java/lang/invoke/MethodHandle" ∧ y.cls ≠ "java/lang/invoke/VarHandle")
    (hM : Ct l Z y bytes maxL ret [] rm as' h Q') (hsz : Ls.size = c.maxLocals) (eT : T.heap = h) (argsL : List Value) {rest : List Value} (has : as' = argsL.toArray) (hst : st = argsL.reverse ++ rest) {W : Nat} (hW : (rest.map fun v => v.category).sum ≤ W) (hf : rm.frames + 1 ≤ R.frames) (hl : W + (maxL + 11) + rm.locals ≤ R.locals) (hcl : cells + rm.cells ≤ R.cells) (hsl : slots + rm.slots ≤ R.slots) (hlen : ∀ sig, parseMethodDescriptor y.desc = some sig → argsL.length = sig.parameters.length) (hd : decode c.code pc = .ok (.invokestatic index, 3)) (hp : pc + 3 = q) (k : ∀ v T' L, Stand p l e R s m args below meth c T' (locs ++ L) (cells + rm.cells) (slots + rm.slots) → Q' v T'.heap L → Ga p e below s Q C S T' m q Ls (v.toList ++ rest)) : Ga p e below s Q C S T m pc Ls st := by
  subst hp has hst
  obtain ⟨_, _, ⟨T', L', k', n'⟩, -, X', ⟨Lc, hQ', l1, y1, z1⟩, sx⟩ := Jvm.LawKit.callS X hx (y := y) hown (mvT hZ w1) (mvT hZ w2) (mvT hZ w3) (mvT hZ w4) hy (backOf (W := W) hM hZ w4 w3 hf hl) (g := mkF m pc Ls (argsL.reverse ++ rest)) rfl hsz (argsL := argsL) (rest := rest) hlen rfl (by show 2 * 0 + _ ≤ _; omega) hd (fun _ _ => ⟨rfl, eT, hcl, hsl⟩)
  dsimp only [Pt.U, Pt.locs, Pt.cells, Pt.slots] at X' l1 y1 z1 sx hQ'
  subst l1 y1 z1
  exact Ga.stp sx (k _ T' Lc X' hQ')
theorem g_special (X : Stand p l e R s m args below meth c T locs cells slots) (hx : p.tables.exec = Jvm.exec) (hZ : Z.Warmed39 s.vm) (hown : s.vm.findClass own = some m.cls) {index : Nat} {y : MethodName} {bytes : ByteArray} {maxL : Nat} {rm : Room} {as' : Array Value} {Q' : Option Value → Heap → List Loc → Prop} (hy1 : y.name = "<init>") (w1 : (Cond.methodLink own index y).before a0 Z = true) (w2 : (Cond.instanceMethod y).before a0 Z = true) (w3 : (Cond.initialized y.cls).before a0 Z = true) (w4 : (Cond.code y bytes maxL none).before a0 Z = true) (hy : y.cls ≠ "java/lang/invoke/MethodHandle" ∧ y.cls ≠ "java/lang/invoke/VarHandle") {a : Addr}
    (hM : Ct l Z y bytes maxL none [] rm as' h Q') (hsz : Ls.size = c.maxLocals) (eT : T.heap = h) (argsL : List Value) {rest : List Value} (has : as' = (.ref a :: argsL).toArray) (hst : st = argsL.reverse ++ .ref a :: rest) {W : Nat} (hW : (rest.map fun v => v.category).sum ≤ W) (hf : rm.frames + 1 ≤ R.frames) (hl : W + (maxL + 11) + rm.locals ≤ R.locals) (hcl : cells + rm.cells ≤ R.cells) (hsl : slots + rm.slots ≤ R.slots) (hlen : ∀ sig, parseMethodDescriptor y.desc = some sig → argsL.length = sig.parameters.length) (hd : decode c.code pc = .ok (.invokespecial index, 3)) (hp : pc + 3 = q) (k : ∀ v T' L, Stand p l e R s m args below meth c T' (locs ++ L) (cells + rm.cells) (slots + rm.slots) → Q' v T'.heap L → Ga p e below s Q C S T' m q Ls (v.toList ++ rest)) : Ga p e below s Q C S T m pc Ls st := by
  subst hp has hst
  obtain ⟨_, _, ⟨T', L', k', n'⟩, -, X', ⟨Lc, hQ', l1, y1, z1⟩, sx⟩ := X.specialBack hx (y := y) hy1 hown (mvT hZ w1) (mvT hZ w2) (mvT hZ w4) hy (backOf (W := W) hM hZ w4 w3 hf hl) (g := mkF m pc Ls (argsL.reverse ++ .ref a :: rest)) rfl hsz (Steps.refl _) (a := a) (argsL := argsL) (rest := rest) hlen rfl (by show 2 * 0 + _ ≤ _; omega) hd (fun _ _ => ⟨rfl, eT, hcl, hsl⟩)
  dsimp only [Pt.U, Pt.locs, Pt.cells, Pt.slots] at X' l1 y1 z1 sx hQ'
  subst l1 y1 z1
  exact Ga.stp (fun _ kk => sx.trans kk) (k _ T' Lc X' hQ')
theorem g_virtual (X : Stand p l e R s m args below meth c T locs cells slots) (hx : p.tables.exec = Jvm.exec) (hZ : Z.Warmed39 s.vm) (hown : s.vm.findClass own = some m.cls) {index : Nat} {y z : MethodName} {K : String} {ret : Option FieldType} {bytes : ByteArray} {maxL : Nat} {rm : Room} {as' : Array Value} {Q' : Option Value → Heap → List Loc → Prop} (w1 : (Cond.methodLink own index y).before a0 Z = true) (w2 : (Cond.declares y).before a0 Z = true) (nf : NotFace s y) (w3 : (Cond.selects K y z).before a0 Z = true) (w4 : (Cond.instanceMethod z).before a0 Z = true) (w5 : (Cond.initialized z.cls).before a0 Z = true) (w6 : (Cond.code z bytes maxL ret).before a0 Z = true) (hy : y.cls ≠ "java/lang/invoke/MethodHandle" ∧ y.cls ≠ "java/lang/invoke/VarHandle") {a : Addr} (E : Exa Z h a K)
    (hM : Ct l Z z bytes maxL ret [] rm as' h Q') (hsz : Ls.size = c.maxLocals) (eT : T.heap = h) (argsL : List Value) {rest : List Value} (has : as' = (.ref a :: argsL).toArray) (hst : st = argsL.reverse ++ .ref a :: rest) {W : Nat} (hW : (rest.map fun v => v.category).sum ≤ W) (hf : rm.frames + 1 ≤ R.frames) (hl : W + (maxL + 11) + rm.locals ≤ R.locals) (hcl : cells + rm.cells ≤ R.cells) (hsl : slots + rm.slots ≤ R.slots) (hlen : ∀ sig, parseMethodDescriptor y.desc = some sig → argsL.length = sig.parameters.length) (hd : decode c.code pc = .ok (.invokevirtual index, 3)) (hp : pc + 3 = q) (k : ∀ v T' L, Stand p l e R s m args below meth c T' (locs ++ L) (cells + rm.cells) (slots + rm.slots) → Q' v T'.heap L → Ga p e below s Q C S T' m q Ls (v.toList ++ rest)) : Ga p e below s Q C S T m pc Ls st := by
  subst hp has hst
  obtain ⟨cq, kq, qa, qb, qc⟩ := isOf hZ eT E
  obtain ⟨_, _, ⟨T', L', k', n'⟩, -, X', ⟨Lc, hQ', l1, y1, z1⟩, sx⟩ := X.virtualBack hx (y := y) (z := z) hown (mvT hZ w1) (mvT hZ w2) nf (mvT hZ w3) (mvT hZ w4) hy (backOf (W := W) hM hZ w6 w5 hf hl) qa qc (g := mkF m pc Ls (argsL.reverse ++ .ref a :: rest)) rfl hsz (Steps.refl _) (argsL := argsL) (rest := rest) hlen rfl (by show 2 * 0 + _ ≤ _; omega) hd (fun _ _ => ⟨rfl, eT, hcl, hsl⟩)
  dsimp only [Pt.U, Pt.locs, Pt.cells, Pt.slots] at X' l1 y1 z1 sx hQ'
  subst l1 y1 z1
  exact Ga.stp (fun _ kk => sx.trans kk) (k _ T' Lc X' hQ')
theorem g_private (X : Stand p l e R s m args below meth c T locs cells slots) (hx : p.tables.exec = Jvm.exec) (hZ : Z.Warmed39 s.vm) (hown : s.vm.findClass own = some m.cls) {index : Nat} {y : MethodName} {ret : Option FieldType} {bytes : ByteArray} {maxL : Nat} {rm : Room} {as' : Array Value} {Q' : Option Value → Heap → List Loc → Prop} (w1 : (Cond.methodLink own index y).before a0 Z = true) (w2 : (Cond.instanceMethod y).before a0 Z = true) {ki : Nat} (w3 : (Cond.instantiable y.cls ki).before a0 Z = true) (w4 : (Cond.privateMethod y).before a0 Z = true) (w5 : (Cond.initialized y.cls).before a0 Z = true) (w6 : (Cond.code y bytes maxL ret).before a0 Z = true) (hy : y.cls ≠ "java/lang/invoke/MethodHandle" ∧ y.cls ≠ "java/lang/invoke/VarHandle") {a : Addr} {K : String} (E : Exa Z h a K)
    (hM : Ct l Z y bytes maxL ret [] rm as' h Q') (hsz : Ls.size = c.maxLocals) (eT : T.heap = h) (argsL : List Value) {rest : List Value} (has : as' = (.ref a :: argsL).toArray) (hst : st = argsL.reverse ++ .ref a :: rest) {W : Nat} (hW : (rest.map fun v => v.category).sum ≤ W) (hf : rm.frames + 1 ≤ R.frames) (hl : W + (maxL + 11) + rm.locals ≤ R.locals) (hcl : cells + rm.cells ≤ R.cells) (hsl : slots + rm.slots ≤ R.slots) (hlen : ∀ sig, parseMethodDescriptor y.desc = some sig → argsL.length = sig.parameters.length) (hd : decode c.code pc = .ok (.invokevirtual index, 3)) (hp : pc + 3 = q) (k : ∀ v T' L, Stand p l e R s m args below meth c T' (locs ++ L) (cells + rm.cells) (slots + rm.slots) → Q' v T'.heap L → Ga p e below s Q C S T' m q Ls (v.toList ++ rest)) : Ga p e below s Q C S T m pc Ls st := by
  subst hp has hst
  obtain ⟨cq, qa, qb⟩ := E.cell
  have hpr : s.PrivateAt y := Cond.privateMethod_at (mvP hZ w4 (args := #[]))
  obtain ⟨ci, kc, i1, i2, -, i4, -⟩ := Cond.instantiable_spec (mvT (args := args) hZ w3)
  have hni : kc.isInterface = false := by rcases Bool.eq_false_or_eq_true kc.isInterface with q | q <;> simp [q] at i4 ⊢
  have hsel := selects_self_of_private (args := args) i1 i2 hni hpr (mvT hZ w2) hy
  obtain ⟨_, _, ⟨T', L', k', n'⟩, -, X', ⟨Lc, hQ', l1, y1, z1⟩, sx⟩ := X.privateBack hx (y := y) hown (mvT hZ w1) (mvT hZ w2) hsel hpr (mvT hZ w6) hy (backOf (W := W) hM hZ w6 w5 hf hl) (g := mkF m pc Ls (argsL.reverse ++ .ref a :: rest)) rfl hsz (Steps.refl _) (a := a) (by rw [eT]; exact qa) qb (argsL := argsL) (rest := rest) hlen rfl (by show 2 * 0 + _ ≤ _; omega) hd (fun _ _ => ⟨rfl, eT, hcl, hsl⟩)
  dsimp only [Pt.U, Pt.locs, Pt.cells, Pt.slots] at X' l1 y1 z1 sx hQ'
  subst l1 y1 z1
  exact Ga.stp (fun _ kk => sx.trans kk) (k _ T' Lc X' hQ')
theorem own_linkFF {args : Array Value} {s : State} {cls : String} {x : MethodName} {index d c : Nat} {ck ok : Class} {meth : Method} {mf : MethodId} (hd : s.vm.findClass cls = some d) (hc : s.vm.findClass x.cls = some c) (hck : s.vm.classes[c]? = some ck) (hvi : ck.isInterface = true) (hnone : ck.findMethod x.name x.desc = none)
    (hf : s.methodFound? x.cls x.name x.desc = some mf) (hok : s.vm.classes[mf.cls]? = some ok) (hm : ok.methods[mf.idx]? = some meth) (hcl : x.name ≠ "clone") (hpoly : ∀ y, signaturePolymorphic ck y = false) (h : (Jvm.Cond.methodLink cls index x).before args s = true) (pl : Platform) (hpl : pl.magicAccessors = ({} : Platform).magicAccessors) :
    ∃ ci, s.vm.MethodLinksFF pl d index ci c mf ∧ s.rightAt d index (.method mf) = true := by
  have hmeth : s.vm.method? mf = some meth := by simp [Vm.method?, hok, hm]
  have hv := Cond.before_iff.mp h
  simp only [Cond.value, hd, hc, hf] at hv
  split at hv
  case h_2 => cases hv
  rename_i ci via d' c' m' e1 e2 e3 e4
  cases e2; cases e3; cases e4
  simp only [Option.bind_eq_bind, Option.bind_eq_some_iff, Option.pure_def, Option.some.injEq, hck, hok, hmeth] at hv
  obtain ⟨li, l1, dk, hdk, _, rfl, _, rfl, _, rfl, hb⟩ := hv
  simp only [Bool.and_eq_true, Bool.or_eq_true, beq_iff_eq, bne_iff_ne, ne_eq, Option.isNone_iff_eq_none] at hb
  obtain ⟨⟨⟨⟨⟨⟨⟨rfl, n1⟩, o1⟩, v1⟩, -⟩, -⟩, m1⟩, a1⟩ := hb
  obtain ⟨cr, hcr, hl⟩ := State.classLinks_spec hd l1 pl hpl
  cases hc.symm.trans hcr
  obtain ⟨cp, hcp, hnm⟩ := State.names_spec n1
  obtain ⟨dk', cf, hdk', hcf, rfl⟩ := State.poolOf?_spec hd hcp
  cases hdk.symm.trans hdk'
  obtain ⟨ci', nt, hent, hnt, hcn⟩ := namesOf?_method hnm
  have hvt : via = true := v1.symm.trans hvi
  have hE : ci' = ci ∧ cf.constantPool[index]? = some (.interfaceMethodref ci nt) := by
    rcases hent with q | q
    · simp [State.memberEntry?, hcp, q] at e1; rw [hvt] at e1; exact absurd e1.2 (by simp)
    · simp [State.memberEntry?, hcp, q] at e1; exact ⟨e1.1, e1.1 ▸ q⟩
  obtain ⟨rfl, hent'⟩ := hE
  have hne : ci' ≠ index := fun e => by
    subst e
    simp [ConstantPool.className?, hent'] at hcn
  have hdl : dk.loader = none := by
    obtain ⟨dk2, _, _, _, q1, _, q2, _⟩ := hl.here
    cases hdk.symm.trans q1; exact q2
  have hpa : plainAccess s.vm meth.accessFlags mf.cls ok c d dk = true := by
    rcases a1 with q | q
    · exact q
    · exact absurd q.1.2 hcl
  refine ⟨ci', ⟨dk, cf, nt, x.name, x.desc, ck, ok, meth, hdk, hcf, hent', hnt, hl, hne, hck, hvi, hpoly, hnone, State.faceFind_of_found hc hck hvi hpoly hnone hf, hok, hm, hdl.trans m1.symm, ?_, State.openOr_spec hd hdk o1⟩, ?_⟩
  · simpa [Vm.Plain, plainAccess, or_assoc, and_assoc] using hpa
  · simp [State.rightAt, hdk, hcf, hnm, hf]
theorem own_notHere {s : State} {x : MethodName} {cI : ClassId} {kI ok : Class} {r0 : MethodId} (f1 : s.vm.findClass x.cls = some cI) (hkI : s.vm.classes[cI]? = some kI) (hp : ∀ y, signaturePolymorphic kI y = false) (hf : s.methodFound? x.cls x.name x.desc = some r0) (hok : s.vm.classes[r0.cls]? = some ok) (hne : ok.name ≠ kI.name) : kI.findMethod x.name x.desc = none := by
  apply Option.eq_none_iff_forall_ne_some.mpr
  intro j hj
  have hlt : j < kI.methods.size := (Array.findIdx?_eq_some_iff_getElem.mp hj).1
  have hr := State.methodFound?_declared f1 hkI hp hj (by rw [Array.getElem?_eq_getElem hlt]; rfl)
  rw [hf] at hr
  obtain rfl := Option.some.inj hr
  exact hne (congrArg Class.name (Option.some.inj (hok.symm.trans hkI)))
theorem own_entry {s : State} {e : Env} {vm₀ : Vm} {args : Array Value} {d : ClassId} {own J : String} {index : Nat} {x : MethodName} {cI : ClassId} {r0 : MethodId} {r : Method} (hW : s.WarmedH vm₀) (hpl : e.platform.magicAccessors = ({} : Platform).magicAccessors) (hown : s.vm.findClass own = some d)
    (hlink : (Jvm.Cond.methodLink own index x).before args s = true) (hface : (Jvm.Cond.interfaceMethod x.cls J x.name x.desc).before args s = true) (hxo : x.cls ≠ J) (hcl : x.name ≠ "clone") (hx : x.cls ≠ "java/lang/invoke/MethodHandle" ∧ x.cls ≠ "java/lang/invoke/VarHandle") (hcI : s.vm.findClass x.cls = some cI) (hn : s.methodNamed? ⟨J, x.name, x.desc⟩ = some r0) (hrm : s.vm.method? r0 = some r) :
    ∃ ci nt dk ck cf, s.MethodEntryUp e vm₀ d index cI r0 ci ∧ s.vm.classes[d]? = some dk ∧ dk.cf = some cf ∧ cf.constantPool[index]? = some (.interfaceMethodref ci nt) ∧ s.vm.classes[cI]? = some ck ∧ ck.isInterface = true := by
  obtain ⟨ok, hok, hokn⟩ := className_of_methodNamed hn
  obtain ⟨c1, kI, r3, f1, hkI, hiI, hf, f2⟩ := Cond.interfaceMethod_spec hface
  obtain rfl := Option.some.inj (hcI.symm.trans f1)
  obtain rfl := Option.some.inj (hn.symm.trans f2)
  obtain ⟨k2, q, hnI⟩ := Vm.findClass_spec f1
  obtain rfl := Option.some.inj (hkI.symm.trans q)
  have hp : ∀ y, signaturePolymorphic kI y = false := fun y => by simp [signaturePolymorphic, hnI, hx.1, hx.2]
  obtain ⟨ci, hl, hr⟩ := own_linkFF hown f1 hkI hiI (own_notHere f1 hkI hp hf hok (by rw [hokn, hnI]; exact Ne.symm hxo)) hf hok (by simpa [Vm.method?, hok] using hrm) hcl hp hlink e.platform hpl
  obtain ⟨dk, cf, nt, -, -, ck, -, -, hd, hcf, hcp, -, -, -, hck, hvia, -⟩ := hl.here
  exact ⟨ci, nt, dk, ck, cf, State.methodEntryFF hW hl hr, hd, hcf, hcp, hck, hvia⟩
theorem own_ifaceStep {p : Program} {l : Launch} {e : Env} {R : Room} {s : State} {m : MethodId} {args : Array Value} {below : List Frame} {meth : Method} {c : Code} {T : State} {locs : List Loc} {cells slots : Nat} (X : Stand p l e R s m args below meth c T locs cells slots) (hexec : p.tables.exec = Jvm.exec) {own J : String} {index count : Nat} {x : MethodName} (hown : s.vm.findClass own = some m.cls)
    (hlink : (Jvm.Cond.methodLink own index x).before args s = true) (hface : (Jvm.Cond.interfaceMethod x.cls J x.name x.desc).before args s = true) (hdecl : (Jvm.Cond.declares ⟨J, x.name, x.desc⟩).before args s = true) (hxo : x.cls ≠ J) (hcl : x.name ≠ "clone") (hx : x.cls ≠ "java/lang/invoke/MethodHandle" ∧ x.cls ≠ "java/lang/invoke/VarHandle")
    {a : Addr} {cell : Cell} {kcell : Class} {cI : ClassId} (hcI : s.vm.findClass x.cls = some cI) (hcell : T.heap[a]? = some cell) (hobj : ∀ c, cell.vm ≠ .statics c) (hkcell : s.vm.classes[cell.cls]? = some kcell) (hinst : s.vm.assignable cell.cls cI = true)
    {r0 m' : MethodId} {r meth' : Method} (hn : s.methodNamed? ⟨J, x.name, x.desc⟩ = some r0) (hrm : s.vm.method? r0 = some r) (hsel : selectMethod e.platform s.vm cell.cls r0 = .method m') (hm' : s.vm.method? m' = some meth')
    (hway : ((cell.cls :: s.vm.superclasses cell.cls).any fun k => (declaredIn s.vm r.name r.desc k).any fun (_, y) => y.isPrivate || y.isStatic) = false) (hpub : hasFlag meth'.accessFlags Acc.public_ = true) (habs : meth'.isAbstract = false)
    {g : JFrame} (hg : g.method = m) {argsL rest : List Value} (hlen : argsL.length = r.sig.parameters.length) (hstack : g.stack = argsL.reverse ++ .ref a :: rest) (hdg : decode c.code g.pc = .ok (.invokeinterface index count, 5)) :
    ∃ vm', Stand p l e R s m args below meth c (T.setVm vm') locs cells slots ∧ ∀ target, (∀ acts, Steps p.tables e below (doInvoke e ((T.setVm vm').setTop { g with stack := rest }) acts m' (.ref a :: argsL).toArray).1 target) → Steps p.tables e below (T.setTop g) target := by
  obtain ⟨r1, r2, n1, n2, hst, -⟩ := Cond.declares_spec hdecl
  cases hn.symm.trans n1
  cases hrm.symm.trans n2
  subst hg
  obtain ⟨ci, nt, dk, ck, cf, hE, hd, hcf, hcp, hck, hvia⟩ := own_entry (e := e) X.warmed (by rw [X.admits.platform]) hown hlink hface hxo hcl hx hcI hn hrm
  obtain ⟨vmX, hvX⟩ : ∃ v, T.vm.calledUp g.method.cls ci index cI r0 = v := ⟨_, rfl⟩
  have wX : s.WarmedH vmX := hvX ▸ hE.warmed
  have al := wX.alike
  obtain ⟨dk2, hdk2, hres⟩ := hE.classReady
  have hrd := hE.ready
  rw [hvX] at hdk2 hrd
  obtain ⟨dk3, hdk3, hed⟩ := al.2.2 _ _ hd
  obtain rfl := Option.some.inj (hdk3.symm.trans hdk2)
  obtain ⟨ck2, hck2, hec⟩ := al.2.2 _ _ hck
  obtain ⟨kc2, hkc2, -⟩ := al.2.2 _ _ hkcell
  refine ⟨vmX, X.noted wX, fun target hrest => ?_⟩
  jvm_step X.here [hexec, hdg, invokeinterface.wp_coldFace (e := e) (s := T) (s₀ := s) (f := g) (count := count) X.here.top X.warmed hE hd hcf (Or.inr hcp) hck hvia, hvX,
    invokeinterface.wp_ready (e := e) (s := T.setVm vmX) (f := g) (count := count) (r := r) (meth := meth') (m := m') (args := argsL) (rest := rest) (cell := cell) (kcell := kc2) (ck := dk3) (nk := ck2) (cf := cf) (ci := ci) (nt := nt) (named := cI) X.here.top hrd (show vmX.method? r0 = some r by rw [al.method?]; exact hrm) hst hlen hstack hcell hobj hkc2 hdk2 (by rw [hed]; exact hcf) hcp hres hck2 (by rw [hec]; exact hvia)
      (show vmX.assignable cell.cls cI = true by rw [al.assignable]; exact hinst) (show selectMethod e.platform vmX cell.cls r0 = .method m' by rw [al.selectMethod]; exact hsel) (show vmX.method? m' = some meth' by rw [al.method?]; exact hm') (Or.inr (Or.inr (by show ((cell.cls :: vmX.superclasses cell.cls).any fun k => (declaredIn vmX r.name r.desc k).any fun (_, y) => y.isPrivate || y.isStatic) = false; simp only [al.superclasses, al.declaredIn]; exact hway))) (Or.inl hpub) habs]
  exact hrest
theorem g_ifaceUp (X : Stand p l e R s m args below meth c T locs cells slots) (hx : p.tables.exec = Jvm.exec) (hZ : Z.Warmed39 s.vm) (hown : s.vm.findClass own = some m.cls) {index count : Nat} {y z : MethodName} {K J : String} {ret : Option FieldType} {bytes : ByteArray} {maxL : Nat} {rm : Room} {as' : Array Value} {Q' : Option Value → Heap → List Loc → Prop} (w1 : (Cond.methodLink own index y).before a0 Z = true) (w2 : (Cond.declares ⟨J, y.name, y.desc⟩).before a0 Z = true) (w2' : (Cond.interfaceMethod y.cls J y.name y.desc).before a0 Z = true) (hxo : y.cls ≠ J) (hcn : y.name ≠ "clone") (w3 : (Cond.selects K y z).before a0 Z = true) (w4 : (Cond.instanceMethod z).before a0 Z = true) (w7 : (Cond.publicMethod z).before a0 Z = true) (w8 : (Cond.unhidden K y.name y.desc).before a0 Z = true) (w9 : (Cond.castable K y.cls).before a0 Z = true) (w5 : (Cond.initialized z.cls).before a0 Z = true) (w6 : (Cond.code z bytes maxL ret).before a0 Z = true) (hy : y.cls ≠ "java/lang/invoke/MethodHandle" ∧ y.cls ≠ "java/lang/invoke/VarHandle") {a : Addr} (E : Exa Z h a K)
    (hM : Ct l Z z bytes maxL ret [] rm as' h Q') (hsz : Ls.size = c.maxLocals) (eT : T.heap = h) (argsL : List Value) {rest : List Value} (has : as' = (.ref a :: argsL).toArray) (hst : st = argsL.reverse ++ .ref a :: rest) {W : Nat} (hW : (rest.map fun v => v.category).sum ≤ W) (hf : rm.frames + 1 ≤ R.frames) (hl : W + (maxL + 11) + rm.locals ≤ R.locals) (hcl : cells + rm.cells ≤ R.cells) (hsl : slots + rm.slots ≤ R.slots) (hlen : ∀ sig, parseMethodDescriptor y.desc = some sig → argsL.length = sig.parameters.length) (hd : decode c.code pc = .ok (.invokeinterface index count, 5)) (hp : pc + 5 = q) (k : ∀ v T' L, Stand p l e R s m args below meth c T' (locs ++ L) (cells + rm.cells) (slots + rm.slots) → Q' v T'.heap L → Ga p e below s Q C S T' m q Ls (v.toList ++ rest)) : Ga p e below s Q C S T m pc Ls st := by
  subst hp has hst
  obtain ⟨cB, kB, hcB, hkB, cellB, hcellT, hclsB, hstatB⟩ := isOf hZ eT E
  have u1 : (Cond.methodLink own index y).before args s = true := mvT hZ w1
  have u2 : (Cond.declares ⟨J, y.name, y.desc⟩).before args s = true := mvT hZ w2
  have u3 : (Cond.interfaceMethod y.cls J y.name y.desc).before args s = true := Jvm.Free.ULB.iface_rides hZ.alike w2'
  have u4 : (Cond.selects K y z).before args s = true := mvT hZ w3
  have u5 : (Cond.instanceMethod z).before args s = true := mvT hZ w4
  have u6 : (Cond.publicMethod z).before args s = true := mvT hZ w7
  have u7 : (Cond.unhidden K y.name y.desc).before args s = true := mvT hZ w8
  have u8 : (Cond.castable K y.cls).before args s = true := mvT hZ w9
  obtain ⟨r0, r, hn, hrm, -, hsigR⟩ := Cond.declares_spec u2
  obtain ⟨cL, kL, r1, hcL, hkL, -, hfoundL, hn1⟩ := Cond.interfaceMethod_spec u3
  cases hn.symm.trans hn1
  obtain ⟨hnameR, hdescR⟩ := name_of_methodNamed hn hrm
  obtain ⟨mk, methM, hnamed, hmethM, -, habM⟩ := Cond.instanceMethod_spec u5
  obtain ⟨c2, r2, m2, q1, q2, q3, q4, -⟩ := Cond.selects_spec u4
  cases hcB.symm.trans q1
  cases hfoundL.symm.trans q2
  cases hnamed.symm.trans q3
  obtain ⟨c3, t3, i1, i2, i3⟩ := Cond.castable_spec u8
  cases hcB.symm.trans i1
  cases hcL.symm.trans i2
  obtain ⟨vm₁, X₁, hstep⟩ := own_ifaceStep X hx hown u1 u3 u2 hxo hcn hy (a := a) (cell := cellB) (kcell := kB) hcL hcellT (fun z h => by rw [h] at hstatB; cases hstatB) (by rw [hclsB]; exact hkB) (by rw [hclsB]; exact i3) hn hrm (by rw [Launch.admits_selectMethod X.admits, hclsB]; exact q4) hmethM (by rw [hnameR, hdescR, hclsB]; exact Cond.unhidden_spec hcB u7) (Cond.publicMethod_spec hnamed hmethM u6) habM (g := mkF m pc Ls (argsL.reverse ++ .ref a :: rest)) rfl (argsL := argsL) (rest := rest) (hlen _ hsigR) rfl hd
  obtain ⟨v, ⟨T', L', k', n'⟩, X', ⟨Lc, hQ', l1, y1, z1⟩, sx⟩ := (backOf (len := 5) (W := W) hM hZ w6 w5 hf hl : Back l R p e below s args z 5 W _ _) m meth c ⟨T.setVm vm₁, locs, cells, slots⟩ (mkF m pc Ls rest) (.invokeinterface index count) mk (.ref a :: argsL).toArray X₁ rfl hsz hd (by show 2 * 0 + (rest.map fun v => v.category).sum ≤ _; omega) (X₁.named hnamed) ⟨rfl, eT, hcl, hsl⟩
  dsimp only [Pt.U, Pt.locs, Pt.cells, Pt.slots] at X' l1 y1 z1 sx hQ'
  subst l1 y1 z1
  exact Ga.stp (fun _ kk => hstep _ fun acts => by rw [doInvoke_state]; exact sx.trans kk) (k _ T' Lc X' hQ')
variable {ka : ClassId} {ty : FieldType} {z j : Int32} {vs : List Value} {dv : Value} {a : Addr}
theorem g_len (X : Stand p l e R s m args below meth c T locs cells slots) (hx : p.tables.exec = Jvm.exec) (hZ : Z.Warmed39 s.vm) (eT : T.heap = h) (A : Arv Z h a ka ty z vs dv) (hd : decode c.code pc = .ok (.arraylength, 1)) (hp : pc + 1 = q) (g : Ga p e below s Q C S T m q Ls (.int z :: st)) : Ga p e below s Q C S T m pc Ls (.ref a :: st) := by
  subst hp
  obtain ⟨cl, Ar, -, Sz, N, -, -⟩ := A
  refine Ga.stp (fun t k => X.arraylength hx (by rw [eT]; exact Ar.1) (State.isArrayOf_alike hZ.alike Ar.2.1) (g := mkF m pc Ls (.ref a :: st)) rfl rfl hd t ?_) g
  rw [len_of Sz N]; exact k
theorem g_baload (X : Stand p l e R s m args below meth c T locs cells slots) (hx : p.tables.exec = Jvm.exec) (hZ : Z.Warmed39 s.vm) (eT : T.heap = h) (A : Arv Z h a ka .byte z vs dv) {v : Value} (hin : ¬ j < 0 ∧ j < z) (hv : vs.getD j.toNatClampNeg dv = v) (hd : decode c.code pc = .ok (.baload, 1)) (hp : pc + 1 = q) (g : Ga p e below s Q C S T m q Ls (v :: st)) : Ga p e below s Q C S T m pc Ls (.int j :: .ref a :: st) := by
  subst hp
  obtain ⟨cl, Ar, -, Sz, N, Hs, -⟩ := A
  exact Ga.stp (fun t k => X.baloadBytes hx (j := j) (v := v) (by rw [eT]; exact Ar.1) (State.isArrayOf_alike hZ.alike Ar.2.1) Ar.2.2 (inb_of Sz hin) (Hs.at (inb_of Sz hin) hv) (g := mkF m pc Ls (.int j :: .ref a :: st)) rfl rfl hd t k) g
theorem g_bastore (X : Stand p l e R s m args below meth c T locs cells slots) (hx : p.tables.exec = Jvm.exec) (hZ : Z.Warmed39 s.vm) (eT : T.heap = h) (A : Arv Z h a ka .byte z vs dv) {x : Int32} (hin : ¬ j < 0 ∧ j < z) (hlen : j.toNatClampNeg < vs.length) (hd : decode c.code pc = .ok (.bastore, 1)) (hp : pc + 1 = q)
    (k : ∀ T' h', Stand p l e R s m args below meth c T' (locs ++ [⟨a, j.toNatClampNeg⟩]) cells slots → T'.heap = h' → Wr h h' a j.toNatClampNeg (.int (nar .byte x)) → Arv Z h' a ka .byte z (vs.set j.toNatClampNeg (.int (nar .byte x))) dv → Ga p e below s Q C S T' m q Ls st) : Ga p e below s Q C S T m pc Ls (.int x :: .int j :: .ref a :: st) := by
  subst hp
  obtain ⟨cl, Ar, q1, Sz, N, Hs, Gs⟩ := A
  obtain ⟨T', h', X', e', W', sx⟩ := stB X hx hZ eT Ar (j := j) (inb_of Sz hin) (g := mkF m pc Ls (.int x :: .int j :: .ref a :: st)) rfl rfl hd
  exact Ga.stp sx (k T' h' X' e' W' (Arv.set Ar q1 Sz N Hs Gs (fits_nar_byte x) W' _ rfl hlen))
theorem g_newarray (X : Stand p l e R s m args below meth c T locs cells slots) (hx : p.tables.exec = Jvm.exec) (hZ : Z.Warmed39 s.vm) {aty : ArrayType} (w : (Cond.arrayClass (newarray.typeOf aty)).before a0 Z = true) (eT : T.heap = h) {n : Int32} (hn : ¬ n < 0) (cap : Nat) (hcap : n.toNatClampNeg ≤ cap) (hb : cap * 8 ≤ 536870912) (hc : cells + 1 ≤ R.cells) (hl : slots + cap ≤ R.slots) {ad : String} (had : "[" ++ (newarray.typeOf aty).toString = ad) (hd : decode c.code pc = .ok (.newarray aty, 2)) (hp : pc + 2 = q)
    (k : ∀ T' h' b kA, Stand p l e R s m args below meth c T' locs (cells + 1) (slots + cap) → T'.heap = h' → b = h.size → Ext h h' → Exa Z h' b ad → Arv Z h' b kA (newarray.typeOf aty) n (List.replicate cap (defaultValue (newarray.typeOf aty))) (defaultValue (newarray.typeOf aty)) → Ga p e below s Q C S T' m q Ls (.ref b :: st)) : Ga p e below s Q C S T m pc Ls (.int n :: st) := by
  subst hp
  obtain ⟨T', h', cA, X', e', E', A', Ea, sx⟩ := newPE X hx hZ w eT (g := mkF m pc Ls (.int n :: st)) rfl hd rfl hn hcap hb hc hl had
  exact Ga.stp sx (k T' h' _ cA X' e' rfl E' Ea ((Arv.new A' hn).pad (by simpa using pad_rep [] (defaultValue (newarray.typeOf aty)) cap)))
theorem g_anewarray (X : Stand p l e R s m args below meth c T locs cells slots) (hx : p.tables.exec = Jvm.exec) (hZ : Z.Warmed39 s.vm) (hown : s.vm.findClass own = some m.cls) {K : String} {index : Nat} (w1 : (Cond.classLink own index K).before a0 Z = true) (w2 : (Cond.arrayOver (.object K)).before a0 Z = true) (eT : T.heap = h) {n : Int32} (hn : ¬ n < 0) (cap : Nat) (hcap : n.toNatClampNeg ≤ cap) (hb : cap * 8 ≤ 536870912) (hc : cells + 1 ≤ R.cells) (hl : slots + cap ≤ R.slots) {ad : String} (had : "[" ++ (FieldType.object K).toString = ad) (hd : decode c.code pc = .ok (.anewarray index, 3)) (hp : pc + 3 = q)
    (k : ∀ T' h' b kA, Stand p l e R s m args below meth c T' locs (cells + 1) (slots + cap) → T'.heap = h' → b = h.size → Ext h h' → Exa Z h' b ad → Ovr Z kA K → Arv Z h' b kA (.object K) n (List.replicate cap .null) .null → Ga p e below s Q C S T' m q Ls (.ref b :: st)) : Ga p e below s Q C S T m pc Ls (.int n :: st) := by
  subst hp
  obtain ⟨T', h', cA, X', e', E', A', Ea, O', sx⟩ := newRE X hx hZ hown w1 w2 eT (g := mkF m pc Ls (.int n :: st)) rfl hd rfl hn hcap hb hc hl had
  exact Ga.stp sx (k T' h' _ cA X' e' rfl E' Ea O' ((Arv.new A' hn).pad (by show ∀ i, (List.replicate cap (defaultValue (FieldType.object K))).getD i (defaultValue (FieldType.object K)) = [].getD i (defaultValue (FieldType.object K)); simpa using pad_rep [] (defaultValue (FieldType.object K)) cap)))
theorem g_arraycopy (X : Stand p l e R s m args below meth c T locs cells slots) (hx : p.tables.exec = Jvm.exec) (hZ : Z.Warmed39 s.vm) (hown : s.vm.findClass own = some m.cls) {index : Nat} (w1 : (Cond.methodLink own index Jvm.Stand.acN).before a0 Z = true) (w2 : (Cond.native Jvm.Stand.acN).before a0 Z = true) (w3 : (Cond.static Jvm.Stand.acN).before a0 Z = true) (w4 : (Cond.initialized "java/lang/System").before a0 Z = true) (eT : T.heap = h)
    {b : Addr} {kb : ClassId} {zb sp dp nn : Int32} {vd : List Value} {dd : Value} (A : Arv Z h a ka ty z vs dv) (B : Arv Z h b kb ty zb vd dd) (hty : refKind ty = false) (h1 : ¬ sp < 0) (h2 : ¬ dp < 0) (h3 : ¬ nn < 0) (h4 : sp.toNatClampNeg + nn.toNatClampNeg ≤ z.toNatClampNeg) (h5 : dp.toNatClampNeg + nn.toNatClampNeg ≤ zb.toNatClampNeg) (hlv : dp.toNatClampNeg + nn.toNatClampNeg ≤ vd.length)
    {n0 : Nat} (N : Fr n0 locs) (ge : n0 ≤ b) (hsz : Ls.size = c.maxLocals) (hd : decode c.code pc = .ok (.invokestatic index, 3)) (hp : pc + 3 = q) (hf : 1 ≤ R.frames) {W : Nat} (hW : (st.map fun v => v.category).sum ≤ W) (hlo : W + (nativeFrameWords "java/lang/System" "arraycopy" 5 + 11) ≤ R.locals)
    (k : ∀ T' h' L, Stand p l e R s m args below meth c T' L cells slots → T'.heap = h' → Fr n0 L → Keep h h' [b] → Arv Z h' b kb ty zb (vd.take dp.toNatClampNeg ++ ((List.range nn.toNatClampNeg).map fun i => vs.getD (sp.toNatClampNeg + i) dv) ++ vd.drop (dp.toNatClampNeg + nn.toNatClampNeg)) dd → Ga p e below s Q C S T' m q Ls st) : Ga p e below s Q C S T m pc Ls (.int nn :: .int dp :: .ref b :: .int sp :: .ref a :: st) := by
  subst hp
  obtain ⟨T', h', L', X', e', N', K', A', sx⟩ := cpA X hx hZ hown w1 w2 w3 w4 eT A B (Or.inl ⟨rfl, hty⟩) h1 h2 h3 h4 h5 rfl hlv N ge (g := mkF m pc Ls (.int nn :: .int dp :: .ref b :: .int sp :: .ref a :: st)) rfl hsz rfl hd hf (W := W) (by show 2 * 0 + _ ≤ _; omega) hlo
  exact Ga.stp sx (k T' h' L' X' e' N' K' A')
theorem g_acopyF (X : Stand p l e R s m args below meth c T locs cells slots) (hx : p.tables.exec = Jvm.exec) (hZ : Z.Warmed39 s.vm) (hown : s.vm.findClass own = some m.cls) {index : Nat} (w1 : (Cond.methodLink own index Jvm.Stand.acN).before a0 Z = true) (w2 : (Cond.native Jvm.Stand.acN).before a0 Z = true) (w3 : (Cond.static Jvm.Stand.acN).before a0 Z = true) (w4 : (Cond.initialized "java/lang/System").before a0 Z = true) (eT : T.heap = h)
    {b : Addr} {kb : ClassId} {zb nn : Int32} {vd : List Value} {dd : Value} (A : Arv Z h a ka ty z vs dv) (B : Arv Z h b kb ty zb vd dd) (hty : refKind ty = false) (h3 : ¬ nn < 0) (h4 : nn.toNatClampNeg ≤ z.toNatClampNeg) (h5 : nn.toNatClampNeg ≤ zb.toNatClampNeg) (hlv : nn.toNatClampNeg = vd.length)
    {n0 : Nat} (N : Fr n0 locs) (ge : n0 ≤ b) (hsz : Ls.size = c.maxLocals) (hd : decode c.code pc = .ok (.invokestatic index, 3)) (hp : pc + 3 = q) (hf : 1 ≤ R.frames) {W : Nat} (hW : (st.map fun v => v.category).sum ≤ W) (hlo : W + (nativeFrameWords "java/lang/System" "arraycopy" 5 + 11) ≤ R.locals)
    (k : ∀ T' h' L, Stand p l e R s m args below meth c T' L cells slots → T'.heap = h' → Fr n0 L → Keep h h' [b] → Arv Z h' b kb ty zb ((List.range nn.toNatClampNeg).map fun i => vs.getD i dv) dd → Ga p e below s Q C S T' m q Ls st) : Ga p e below s Q C S T m pc Ls (.int nn :: .int (0 : Int32) :: .ref b :: .int (0 : Int32) :: .ref a :: st) := by
  have z0 : (0 : Int32).toNatClampNeg = 0 := rfl
  refine g_arraycopy X hx hZ hown w1 w2 w3 w4 eT A B hty (by decide) (by decide) h3 (by rw [z0]; omega) (by rw [z0]; omega) (by rw [z0]; omega) N ge hsz hd hp hf hW hlo fun T' h' L X' e' N' K' A' => k T' h' L X' e' N' K' ?_
  have e : vd.take (0 : Int32).toNatClampNeg ++ ((List.range nn.toNatClampNeg).map fun i => vs.getD ((0 : Int32).toNatClampNeg + i) dv) ++ vd.drop ((0 : Int32).toNatClampNeg + nn.toNatClampNeg) = (List.range nn.toNatClampNeg).map fun i => vs.getD i dv := by
    rw [z0, List.take_zero, List.nil_append, List.drop_eq_nil_of_le (by omega), List.append_nil]
    simp only [Nat.zero_add]
  rw [e] at A'; exact (A')
theorem own_ne {b : Addr} (h1 : a < h.size) (h2 : b = h.size) : a ≠ b := Nat.ne_of_lt (h2 ▸ h1)
theorem own_neK {b : Addr} (h1 : a < h.size) (h2 : h.size ≤ b) : a ≠ b := Nat.ne_of_lt (Nat.lt_of_lt_of_le h1 h2)
end GoKit

theorem own_irrI (x : Int32) : ¬ x < x := Int32.lt_irrefl
theorem own_irrJ (x : Int64) : ¬ x < x := Int64.lt_irrefl
theorem own_narc (x : Int32) : nar .char (x &&& (255 : Int32)) = (x &&& (255 : Int32)) := i2c_mask x
theorem own_nar (x : Int32) : nar .byte x = x.toInt8.toInt32 := rfl
theorem own_bb (x : Int32) : x.toInt8.toInt32.toInt8.toInt32 = x.toInt8.toInt32 := by simp
theorem own_nb {h : Heap} {b b' y : Addr} (hb : b' = b ∨ h.size ≤ b') (lt : y < h.size) (ne : y ≠ b) : y ≠ b' := hb.elim (fun q => q ▸ ne) (fun q => Nat.ne_of_lt (Nat.lt_of_lt_of_le lt q))
theorem own_ng {h : Heap} {b b' : Addr} {n0 : Nat} (hb : b' = b ∨ h.size ≤ b') (g : n0 ≤ b) (Z : n0 ≤ h.size) : n0 ≤ b' := hb.elim (fun q => q ▸ g) (fun q => Nat.le_trans Z q)
theorem own_insK {Z : State} {h h' : Heap} {a : Addr} {C : String} {ws : List Addr} (F : Ins Z h a C true) (K : Keep h h' ws) : Ins Z h' a C true := by
  obtain ⟨cell, cT, h1, h2, h3⟩ := F
  obtain ⟨c', q1, q2, q3, -⟩ := K.2.2 _ _ h1
  exact ⟨c', cT, q1, h2, by rw [q2, q3]; exact h3⟩
theorem d_jdk_22_m_1_0 : decode jdk_22_method_1_code 0 = .ok (.aload_n 0, 1) := by decide +kernel
theorem d_jdk_22_m_1_1 : decode jdk_22_method_1_code 1 = .ok (.invokespecial 1, 3) := by decide +kernel
theorem d_jdk_22_m_1_4 : decode jdk_22_method_1_code 4 = .ok (.return_, 1) := by decide +kernel
theorem d_jdk_21_m_3_0 : decode jdk_21_method_3_code 0 = .ok (.aload_n 0, 1) := by decide +kernel
theorem d_jdk_21_m_3_1 : decode jdk_21_method_3_code 1 = .ok (.invokespecial 42, 3) := by decide +kernel
theorem d_jdk_21_m_3_4 : decode jdk_21_method_3_code 4 = .ok (.aload_n 0, 1) := by decide +kernel
theorem d_jdk_21_m_3_5 : decode jdk_21_method_3_code 5 = .ok (.bipush 17, 2) := by decide +kernel
theorem d_jdk_21_m_3_7 : decode jdk_21_method_3_code 7 = .ok (.anewarray 47, 3) := by decide +kernel
theorem d_jdk_21_m_3_10 : decode jdk_21_method_3_code 10 = .ok (.putfield 3, 3) := by decide +kernel
theorem d_jdk_21_m_3_13 : decode jdk_21_method_3_code 13 = .ok (.return_, 1) := by decide +kernel
theorem d_jdk_21_m_38_0 : decode jdk_21_method_38_code 0 = .ok (.aload_n 0, 1) := by decide +kernel
theorem d_jdk_21_m_38_1 : decode jdk_21_method_38_code 1 = .ok (.getfield 24, 3) := by decide +kernel
theorem d_jdk_21_m_38_4 : decode jdk_21_method_38_code 4 = .ok (.aload_n 0, 1) := by decide +kernel
theorem d_jdk_21_m_38_5 : decode jdk_21_method_38_code 5 = .ok (.getfield 20, 3) := by decide +kernel
theorem d_jdk_21_m_38_8 : decode jdk_21_method_38_code 8 = .ok (.if_icmp .ne 7, 3) := by decide +kernel
theorem d_jdk_21_m_38_11 : decode jdk_21_method_38_code 11 = .ok (.iconst 1, 1) := by decide +kernel
theorem d_jdk_21_m_38_12 : decode jdk_21_method_38_code 12 = .ok (.goto 4, 3) := by decide +kernel
theorem d_jdk_21_m_38_16 : decode jdk_21_method_38_code 16 = .ok (.ireturn, 1) := by decide +kernel
theorem d_prog_15_m_19_0 : decode prog_15_method_19_code 0 = .ok (.aload_n 0, 1) := by decide +kernel
theorem d_prog_15_m_19_1 : decode prog_15_method_19_code 1 = .ok (.getfield 55, 3) := by decide +kernel
theorem d_prog_15_m_19_4 : decode prog_15_method_19_code 4 = .ok (.aload_n 0, 1) := by decide +kernel
theorem d_prog_15_m_19_5 : decode prog_15_method_19_code 5 = .ok (.getfield 7, 3) := by decide +kernel
theorem d_prog_15_m_19_8 : decode prog_15_method_19_code 8 = .ok (.arraylength, 1) := by decide +kernel
theorem d_prog_15_m_19_9 : decode prog_15_method_19_code 9 = .ok (.if_icmp .ne 21, 3) := by decide +kernel
theorem d_prog_15_m_19_30 : decode prog_15_method_19_code 30 = .ok (.aload_n 0, 1) := by decide +kernel
theorem d_prog_15_m_19_31 : decode prog_15_method_19_code 31 = .ok (.getfield 7, 3) := by decide +kernel
theorem d_prog_15_m_19_34 : decode prog_15_method_19_code 34 = .ok (.aload_n 0, 1) := by decide +kernel
theorem d_prog_15_m_19_35 : decode prog_15_method_19_code 35 = .ok (.dup, 1) := by decide +kernel
theorem d_prog_15_m_19_36 : decode prog_15_method_19_code 36 = .ok (.getfield 55, 3) := by decide +kernel
theorem d_prog_15_m_19_39 : decode prog_15_method_19_code 39 = .ok (.dup_x1, 1) := by decide +kernel
theorem d_prog_15_m_19_40 : decode prog_15_method_19_code 40 = .ok (.iconst 1, 1) := by decide +kernel
theorem d_prog_15_m_19_41 : decode prog_15_method_19_code 41 = .ok (.iadd, 1) := by decide +kernel
theorem d_prog_15_m_19_42 : decode prog_15_method_19_code 42 = .ok (.putfield 55, 3) := by decide +kernel
theorem d_prog_15_m_19_45 : decode prog_15_method_19_code 45 = .ok (.iload_n 1, 1) := by decide +kernel
theorem d_prog_15_m_19_46 : decode prog_15_method_19_code 46 = .ok (.bastore, 1) := by decide +kernel
theorem d_prog_15_m_19_47 : decode prog_15_method_19_code 47 = .ok (.return_, 1) := by decide +kernel
theorem d_prog_15_m_16_0 : decode prog_15_method_16_code 0 = .ok (.aload_n 0, 1) := by decide +kernel
theorem d_prog_15_m_16_1 : decode prog_15_method_16_code 1 = .ok (.iload_n 1, 1) := by decide +kernel
theorem d_prog_15_m_16_2 : decode prog_15_method_16_code 2 = .ok (.i2b, 1) := by decide +kernel
theorem d_prog_15_m_16_3 : decode prog_15_method_16_code 3 = .ok (.invokevirtual 27, 3) := by decide +kernel
theorem d_prog_15_m_16_6 : decode prog_15_method_16_code 6 = .ok (.aload_n 0, 1) := by decide +kernel
theorem d_prog_15_m_16_7 : decode prog_15_method_16_code 7 = .ok (.iload_n 1, 1) := by decide +kernel
theorem d_prog_15_m_16_8 : decode prog_15_method_16_code 8 = .ok (.bipush 8, 2) := by decide +kernel
theorem d_prog_15_m_16_10 : decode prog_15_method_16_code 10 = .ok (.iushr, 1) := by decide +kernel
theorem d_prog_15_m_16_11 : decode prog_15_method_16_code 11 = .ok (.i2b, 1) := by decide +kernel
theorem d_prog_15_m_16_12 : decode prog_15_method_16_code 12 = .ok (.invokevirtual 27, 3) := by decide +kernel
theorem d_prog_15_m_16_15 : decode prog_15_method_16_code 15 = .ok (.return_, 1) := by decide +kernel
theorem d_prog_15_m_17_0 : decode prog_15_method_17_code 0 = .ok (.aload_n 0, 1) := by decide +kernel
theorem d_prog_15_m_17_1 : decode prog_15_method_17_code 1 = .ok (.iload_n 1, 1) := by decide +kernel
theorem d_prog_15_m_17_2 : decode prog_15_method_17_code 2 = .ok (.invokevirtual 24, 3) := by decide +kernel
theorem d_prog_15_m_17_5 : decode prog_15_method_17_code 5 = .ok (.aload_n 0, 1) := by decide +kernel
theorem d_prog_15_m_17_6 : decode prog_15_method_17_code 6 = .ok (.iload_n 1, 1) := by decide +kernel
theorem d_prog_15_m_17_7 : decode prog_15_method_17_code 7 = .ok (.bipush 16, 2) := by decide +kernel
theorem d_prog_15_m_17_9 : decode prog_15_method_17_code 9 = .ok (.iushr, 1) := by decide +kernel
theorem d_prog_15_m_17_10 : decode prog_15_method_17_code 10 = .ok (.invokevirtual 24, 3) := by decide +kernel
theorem d_prog_15_m_17_13 : decode prog_15_method_17_code 13 = .ok (.return_, 1) := by decide +kernel
theorem d_prog_15_m_1_0 : decode prog_15_method_1_code 0 = .ok (.aload_n 0, 1) := by decide +kernel
theorem d_prog_15_m_1_1 : decode prog_15_method_1_code 1 = .ok (.invokespecial 1, 3) := by decide +kernel
theorem d_prog_15_m_1_4 : decode prog_15_method_1_code 4 = .ok (.aload_n 0, 1) := by decide +kernel
theorem d_prog_15_m_1_5 : decode prog_15_method_1_code 5 = .ok (.bipush 64, 2) := by decide +kernel
theorem d_prog_15_m_1_7 : decode prog_15_method_1_code 7 = .ok (.newarray .byte, 2) := by decide +kernel
theorem d_prog_15_m_1_9 : decode prog_15_method_1_code 9 = .ok (.putfield 7, 3) := by decide +kernel
theorem d_prog_15_m_1_12 : decode prog_15_method_1_code 12 = .ok (.aload_n 0, 1) := by decide +kernel
theorem d_prog_15_m_1_13 : decode prog_15_method_1_code 13 = .ok (.new 13, 3) := by decide +kernel
theorem d_prog_15_m_1_16 : decode prog_15_method_1_code 16 = .ok (.dup, 1) := by decide +kernel
theorem d_prog_15_m_1_17 : decode prog_15_method_1_code 17 = .ok (.invokespecial 15, 3) := by decide +kernel
theorem d_prog_15_m_1_20 : decode prog_15_method_1_code 20 = .ok (.putfield 16, 3) := by decide +kernel
theorem d_prog_15_m_1_23 : decode prog_15_method_1_code 23 = .ok (.aload_n 0, 1) := by decide +kernel
theorem d_prog_15_m_1_24 : decode prog_15_method_1_code 24 = .ok (.iconst 0, 1) := by decide +kernel
theorem d_prog_15_m_1_25 : decode prog_15_method_1_code 25 = .ok (.invokevirtual 20, 3) := by decide +kernel
theorem d_prog_15_m_1_28 : decode prog_15_method_1_code 28 = .ok (.aload_n 0, 1) := by decide +kernel
theorem d_prog_15_m_1_29 : decode prog_15_method_1_code 29 = .ok (.iload_n 1, 1) := by decide +kernel
theorem d_prog_15_m_1_30 : decode prog_15_method_1_code 30 = .ok (.invokevirtual 24, 3) := by decide +kernel
theorem d_prog_15_m_1_33 : decode prog_15_method_1_code 33 = .ok (.aload_n 0, 1) := by decide +kernel
theorem d_prog_15_m_1_34 : decode prog_15_method_1_code 34 = .ok (.iload_n 2, 1) := by decide +kernel
theorem d_prog_15_m_1_35 : decode prog_15_method_1_code 35 = .ok (.invokevirtual 24, 3) := by decide +kernel
theorem d_prog_15_m_1_38 : decode prog_15_method_1_code 38 = .ok (.aload_n 0, 1) := by decide +kernel
theorem d_prog_15_m_1_39 : decode prog_15_method_1_code 39 = .ok (.iload_n 3, 1) := by decide +kernel
theorem d_prog_15_m_1_40 : decode prog_15_method_1_code 40 = .ok (.invokevirtual 20, 3) := by decide +kernel
theorem d_prog_15_m_1_43 : decode prog_15_method_1_code 43 = .ok (.aload_n 0, 1) := by decide +kernel
theorem d_prog_15_m_1_44 : decode prog_15_method_1_code 44 = .ok (.iload 4, 2) := by decide +kernel
theorem d_prog_15_m_1_46 : decode prog_15_method_1_code 46 = .ok (.invokevirtual 20, 3) := by decide +kernel
theorem d_prog_15_m_1_49 : decode prog_15_method_1_code 49 = .ok (.return_, 1) := by decide +kernel
theorem d_prog_15_m_2_0 : decode prog_15_method_2_code 0 = .ok (.aload_n 0, 1) := by decide +kernel
theorem d_prog_15_m_2_1 : decode prog_15_method_2_code 1 = .ok (.iload_n 1, 1) := by decide +kernel
theorem d_prog_15_m_2_2 : decode prog_15_method_2_code 2 = .ok (.i2b, 1) := by decide +kernel
theorem d_prog_15_m_2_3 : decode prog_15_method_2_code 3 = .ok (.invokevirtual 27, 3) := by decide +kernel
theorem d_prog_15_m_2_6 : decode prog_15_method_2_code 6 = .ok (.aload_n 0, 1) := by decide +kernel
theorem d_prog_15_m_2_7 : decode prog_15_method_2_code 7 = .ok (.iload_n 2, 1) := by decide +kernel
theorem d_prog_15_m_2_8 : decode prog_15_method_2_code 8 = .ok (.i2b, 1) := by decide +kernel
theorem d_prog_15_m_2_9 : decode prog_15_method_2_code 9 = .ok (.invokevirtual 27, 3) := by decide +kernel
theorem d_prog_15_m_2_12 : decode prog_15_method_2_code 12 = .ok (.aload_n 0, 1) := by decide +kernel
theorem d_prog_15_m_2_13 : decode prog_15_method_2_code 13 = .ok (.iconst 0, 1) := by decide +kernel
theorem d_prog_15_m_2_14 : decode prog_15_method_2_code 14 = .ok (.invokevirtual 24, 3) := by decide +kernel
theorem d_prog_15_m_2_17 : decode prog_15_method_2_code 17 = .ok (.aload_n 0, 1) := by decide +kernel
theorem d_prog_15_m_2_18 : decode prog_15_method_2_code 18 = .ok (.areturn, 1) := by decide +kernel
theorem d_prog_15_m_18_0 : decode prog_15_method_18_code 0 = .ok (.aload_n 0, 1) := by decide +kernel
theorem d_prog_15_m_18_1 : decode prog_15_method_18_code 1 = .ok (.getfield 7, 3) := by decide +kernel
theorem d_prog_15_m_18_4 : decode prog_15_method_18_code 4 = .ok (.iload_n 1, 1) := by decide +kernel
theorem d_prog_15_m_18_5 : decode prog_15_method_18_code 5 = .ok (.iload_n 2, 1) := by decide +kernel
theorem d_prog_15_m_18_6 : decode prog_15_method_18_code 6 = .ok (.i2b, 1) := by decide +kernel
theorem d_prog_15_m_18_7 : decode prog_15_method_18_code 7 = .ok (.bastore, 1) := by decide +kernel
theorem d_prog_15_m_18_8 : decode prog_15_method_18_code 8 = .ok (.aload_n 0, 1) := by decide +kernel
theorem d_prog_15_m_18_9 : decode prog_15_method_18_code 9 = .ok (.getfield 7, 3) := by decide +kernel
theorem d_prog_15_m_18_12 : decode prog_15_method_18_code 12 = .ok (.iload_n 1, 1) := by decide +kernel
theorem d_prog_15_m_18_13 : decode prog_15_method_18_code 13 = .ok (.iconst 1, 1) := by decide +kernel
theorem d_prog_15_m_18_14 : decode prog_15_method_18_code 14 = .ok (.iadd, 1) := by decide +kernel
theorem d_prog_15_m_18_15 : decode prog_15_method_18_code 15 = .ok (.iload_n 2, 1) := by decide +kernel
theorem d_prog_15_m_18_16 : decode prog_15_method_18_code 16 = .ok (.bipush 8, 2) := by decide +kernel
theorem d_prog_15_m_18_18 : decode prog_15_method_18_code 18 = .ok (.iushr, 1) := by decide +kernel
theorem d_prog_15_m_18_19 : decode prog_15_method_18_code 19 = .ok (.i2b, 1) := by decide +kernel
theorem d_prog_15_m_18_20 : decode prog_15_method_18_code 20 = .ok (.bastore, 1) := by decide +kernel
theorem d_prog_15_m_18_21 : decode prog_15_method_18_code 21 = .ok (.return_, 1) := by decide +kernel
theorem d_jdk_29_m_69_0 : decode jdk_29_method_69_code 0 = .ok (.iload_n 0, 1) := by decide +kernel
theorem d_jdk_29_m_69_1 : decode jdk_29_method_69_code 1 = .ok (.iload_n 1, 1) := by decide +kernel
theorem d_jdk_29_m_69_2 : decode jdk_29_method_69_code 2 = .ok (.if_icmp .gt 7, 3) := by decide +kernel
theorem d_jdk_29_m_69_9 : decode jdk_29_method_69_code 9 = .ok (.iload_n 1, 1) := by decide +kernel
theorem d_jdk_29_m_69_10 : decode jdk_29_method_69_code 10 = .ok (.ireturn, 1) := by decide +kernel
theorem d_jdk_65_m_121_0 : decode jdk_65_method_121_code 0 = .ok (.iload_n 1, 1) := by decide +kernel
theorem d_jdk_65_m_121_1 : decode jdk_65_method_121_code 1 = .ok (.aload_n 0, 1) := by decide +kernel
theorem d_jdk_65_m_121_2 : decode jdk_65_method_121_code 2 = .ok (.arraylength, 1) := by decide +kernel
theorem d_jdk_65_m_121_3 : decode jdk_65_method_121_code 3 = .ok (.if_icmp .ne 11, 3) := by decide +kernel
theorem d_jdk_65_m_121_14 : decode jdk_65_method_121_code 14 = .ok (.iload_n 1, 1) := by decide +kernel
theorem d_jdk_65_m_121_15 : decode jdk_65_method_121_code 15 = .ok (.newarray .byte, 2) := by decide +kernel
theorem d_jdk_65_m_121_17 : decode jdk_65_method_121_code 17 = .ok (.astore_n 2, 1) := by decide +kernel
theorem d_jdk_65_m_121_18 : decode jdk_65_method_121_code 18 = .ok (.aload_n 0, 1) := by decide +kernel
theorem d_jdk_65_m_121_19 : decode jdk_65_method_121_code 19 = .ok (.iconst 0, 1) := by decide +kernel
theorem d_jdk_65_m_121_20 : decode jdk_65_method_121_code 20 = .ok (.aload_n 2, 1) := by decide +kernel
theorem d_jdk_65_m_121_21 : decode jdk_65_method_121_code 21 = .ok (.iconst 0, 1) := by decide +kernel
theorem d_jdk_65_m_121_22 : decode jdk_65_method_121_code 22 = .ok (.aload_n 0, 1) := by decide +kernel
theorem d_jdk_65_m_121_23 : decode jdk_65_method_121_code 23 = .ok (.arraylength, 1) := by decide +kernel
theorem d_jdk_65_m_121_24 : decode jdk_65_method_121_code 24 = .ok (.iload_n 1, 1) := by decide +kernel
theorem d_jdk_65_m_121_25 : decode jdk_65_method_121_code 25 = .ok (.invokestatic 304, 3) := by decide +kernel
theorem d_jdk_65_m_121_28 : decode jdk_65_method_121_code 28 = .ok (.invokestatic 150, 3) := by decide +kernel
theorem d_jdk_65_m_121_31 : decode jdk_65_method_121_code 31 = .ok (.aload_n 2, 1) := by decide +kernel
theorem d_jdk_65_m_121_32 : decode jdk_65_method_121_code 32 = .ok (.areturn, 1) := by decide +kernel
theorem d_prog_15_m_12_0 : decode prog_15_method_12_code 0 = .ok (.aload_n 0, 1) := by decide +kernel
theorem d_prog_15_m_12_1 : decode prog_15_method_12_code 1 = .ok (.getfield 16, 3) := by decide +kernel
theorem d_prog_15_m_12_4 : decode prog_15_method_12_code 4 = .ok (.invokeinterface 89 1, 5) := by decide +kernel
theorem d_prog_15_m_12_9 : decode prog_15_method_12_code 9 = .ok (.ifCond .ne 25, 3) := by decide +kernel
theorem d_prog_15_m_12_34 : decode prog_15_method_12_code 34 = .ok (.aload_n 0, 1) := by decide +kernel
theorem d_prog_15_m_12_35 : decode prog_15_method_12_code 35 = .ok (.iconst 0, 1) := by decide +kernel
theorem d_prog_15_m_12_36 : decode prog_15_method_12_code 36 = .ok (.aload_n 0, 1) := by decide +kernel
theorem d_prog_15_m_12_37 : decode prog_15_method_12_code 37 = .ok (.getfield 55, 3) := by decide +kernel
theorem d_prog_15_m_12_40 : decode prog_15_method_12_code 40 = .ok (.invokevirtual 86, 3) := by decide +kernel
theorem d_prog_15_m_12_43 : decode prog_15_method_12_code 43 = .ok (.aload_n 0, 1) := by decide +kernel
theorem d_prog_15_m_12_44 : decode prog_15_method_12_code 44 = .ok (.iconst 2, 1) := by decide +kernel
theorem d_prog_15_m_12_45 : decode prog_15_method_12_code 45 = .ok (.aload_n 0, 1) := by decide +kernel
theorem d_prog_15_m_12_46 : decode prog_15_method_12_code 46 = .ok (.getfield 55, 3) := by decide +kernel
theorem d_prog_15_m_12_49 : decode prog_15_method_12_code 49 = .ok (.bipush 16, 2) := by decide +kernel
theorem d_prog_15_m_12_51 : decode prog_15_method_12_code 51 = .ok (.iushr, 1) := by decide +kernel
theorem d_prog_15_m_12_52 : decode prog_15_method_12_code 52 = .ok (.invokevirtual 86, 3) := by decide +kernel
theorem d_prog_15_m_12_55 : decode prog_15_method_12_code 55 = .ok (.aload_n 0, 1) := by decide +kernel
theorem d_prog_15_m_12_56 : decode prog_15_method_12_code 56 = .ok (.getfield 7, 3) := by decide +kernel
theorem d_prog_15_m_12_59 : decode prog_15_method_12_code 59 = .ok (.aload_n 0, 1) := by decide +kernel
theorem d_prog_15_m_12_60 : decode prog_15_method_12_code 60 = .ok (.getfield 55, 3) := by decide +kernel
theorem d_prog_15_m_12_63 : decode prog_15_method_12_code 63 = .ok (.invokestatic 105, 3) := by decide +kernel
theorem d_prog_15_m_12_66 : decode prog_15_method_12_code 66 = .ok (.areturn, 1) := by decide +kernel
theorem d_m_3_0 : decode method_3_code 0 = .ok (.aload_n 0, 1) := by decide +kernel
theorem d_m_3_1 : decode method_3_code 1 = .ok (.iload_n 1, 1) := by decide +kernel
theorem d_m_3_2 : decode method_3_code 2 = .ok (.baload, 1) := by decide +kernel
theorem d_m_3_3 : decode method_3_code 3 = .ok (.sipush 255, 3) := by decide +kernel
theorem d_m_3_6 : decode method_3_code 6 = .ok (.iand, 1) := by decide +kernel
theorem d_m_3_7 : decode method_3_code 7 = .ok (.i2l, 1) := by decide +kernel
theorem d_m_3_8 : decode method_3_code 8 = .ok (.ldc2_w 8, 3) := by decide +kernel
theorem d_m_3_11 : decode method_3_code 11 = .ok (.aload_n 0, 1) := by decide +kernel
theorem d_m_3_12 : decode method_3_code 12 = .ok (.iload_n 1, 1) := by decide +kernel
theorem d_m_3_13 : decode method_3_code 13 = .ok (.iconst 1, 1) := by decide +kernel
theorem d_m_3_14 : decode method_3_code 14 = .ok (.iadd, 1) := by decide +kernel
theorem d_m_3_15 : decode method_3_code 15 = .ok (.baload, 1) := by decide +kernel
theorem d_m_3_16 : decode method_3_code 16 = .ok (.sipush 255, 3) := by decide +kernel
theorem d_m_3_19 : decode method_3_code 19 = .ok (.iand, 1) := by decide +kernel
theorem d_m_3_20 : decode method_3_code 20 = .ok (.i2l, 1) := by decide +kernel
theorem d_m_3_21 : decode method_3_code 21 = .ok (.lmul, 1) := by decide +kernel
theorem d_m_3_22 : decode method_3_code 22 = .ok (.ladd, 1) := by decide +kernel
theorem d_m_3_23 : decode method_3_code 23 = .ok (.ldc2_w 10, 3) := by decide +kernel
theorem d_m_3_26 : decode method_3_code 26 = .ok (.aload_n 0, 1) := by decide +kernel
theorem d_m_3_27 : decode method_3_code 27 = .ok (.iload_n 1, 1) := by decide +kernel
theorem d_m_3_28 : decode method_3_code 28 = .ok (.iconst 2, 1) := by decide +kernel
theorem d_m_3_29 : decode method_3_code 29 = .ok (.iadd, 1) := by decide +kernel
theorem d_m_3_30 : decode method_3_code 30 = .ok (.baload, 1) := by decide +kernel
theorem d_m_3_31 : decode method_3_code 31 = .ok (.sipush 255, 3) := by decide +kernel
theorem d_m_3_34 : decode method_3_code 34 = .ok (.iand, 1) := by decide +kernel
theorem d_m_3_35 : decode method_3_code 35 = .ok (.i2l, 1) := by decide +kernel
theorem d_m_3_36 : decode method_3_code 36 = .ok (.lmul, 1) := by decide +kernel
theorem d_m_3_37 : decode method_3_code 37 = .ok (.ladd, 1) := by decide +kernel
theorem d_m_3_38 : decode method_3_code 38 = .ok (.ldc2_w 12, 3) := by decide +kernel
theorem d_m_3_41 : decode method_3_code 41 = .ok (.aload_n 0, 1) := by decide +kernel
theorem d_m_3_42 : decode method_3_code 42 = .ok (.iload_n 1, 1) := by decide +kernel
theorem d_m_3_43 : decode method_3_code 43 = .ok (.iconst 3, 1) := by decide +kernel
theorem d_m_3_44 : decode method_3_code 44 = .ok (.iadd, 1) := by decide +kernel
theorem d_m_3_45 : decode method_3_code 45 = .ok (.baload, 1) := by decide +kernel
theorem d_m_3_46 : decode method_3_code 46 = .ok (.sipush 255, 3) := by decide +kernel
theorem d_m_3_49 : decode method_3_code 49 = .ok (.iand, 1) := by decide +kernel
theorem d_m_3_50 : decode method_3_code 50 = .ok (.i2l, 1) := by decide +kernel
theorem d_m_3_51 : decode method_3_code 51 = .ok (.lmul, 1) := by decide +kernel
theorem d_m_3_52 : decode method_3_code 52 = .ok (.ladd, 1) := by decide +kernel
theorem d_m_3_53 : decode method_3_code 53 = .ok (.lstore_n 3, 1) := by decide +kernel
theorem d_m_3_54 : decode method_3_code 54 = .ok (.lload_n 3, 1) := by decide +kernel
theorem d_m_3_55 : decode method_3_code 55 = .ok (.iload_n 2, 1) := by decide +kernel
theorem d_m_3_56 : decode method_3_code 56 = .ok (.i2l, 1) := by decide +kernel
theorem d_m_3_57 : decode method_3_code 57 = .ok (.ldc2_w 14, 3) := by decide +kernel
theorem d_m_3_60 : decode method_3_code 60 = .ok (.land, 1) := by decide +kernel
theorem d_m_3_61 : decode method_3_code 61 = .ok (.lcmp, 1) := by decide +kernel
theorem d_m_3_62 : decode method_3_code 62 = .ok (.ifCond .ne 7, 3) := by decide +kernel
theorem d_m_3_65 : decode method_3_code 65 = .ok (.iconst 1, 1) := by decide +kernel
theorem d_m_3_66 : decode method_3_code 66 = .ok (.goto 4, 3) := by decide +kernel
theorem d_m_3_70 : decode method_3_code 70 = .ok (.ireturn, 1) := by decide +kernel
theorem d_m_2_0 : decode method_2_code 0 = .ok (.aload_n 0, 1) := by decide +kernel
theorem d_m_2_1 : decode method_2_code 1 = .ok (.iload_n 1, 1) := by decide +kernel
theorem d_m_2_2 : decode method_2_code 2 = .ok (.baload, 1) := by decide +kernel
theorem d_m_2_3 : decode method_2_code 3 = .ok (.sipush 255, 3) := by decide +kernel
theorem d_m_2_6 : decode method_2_code 6 = .ok (.iand, 1) := by decide +kernel
theorem d_m_2_7 : decode method_2_code 7 = .ok (.aload_n 0, 1) := by decide +kernel
theorem d_m_2_8 : decode method_2_code 8 = .ok (.iload_n 1, 1) := by decide +kernel
theorem d_m_2_9 : decode method_2_code 9 = .ok (.iconst 1, 1) := by decide +kernel
theorem d_m_2_10 : decode method_2_code 10 = .ok (.iadd, 1) := by decide +kernel
theorem d_m_2_11 : decode method_2_code 11 = .ok (.baload, 1) := by decide +kernel
theorem d_m_2_12 : decode method_2_code 12 = .ok (.sipush 255, 3) := by decide +kernel
theorem d_m_2_15 : decode method_2_code 15 = .ok (.iand, 1) := by decide +kernel
theorem d_m_2_16 : decode method_2_code 16 = .ok (.bipush 8, 2) := by decide +kernel
theorem d_m_2_18 : decode method_2_code 18 = .ok (.ishl, 1) := by decide +kernel
theorem d_m_2_19 : decode method_2_code 19 = .ok (.ior, 1) := by decide +kernel
theorem d_m_2_20 : decode method_2_code 20 = .ok (.istore_n 3, 1) := by decide +kernel
theorem d_m_2_21 : decode method_2_code 21 = .ok (.iload_n 3, 1) := by decide +kernel
theorem d_m_2_22 : decode method_2_code 22 = .ok (.iload_n 2, 1) := by decide +kernel
theorem d_m_2_23 : decode method_2_code 23 = .ok (.ldc 7, 2) := by decide +kernel
theorem d_m_2_25 : decode method_2_code 25 = .ok (.iand, 1) := by decide +kernel
theorem d_m_2_26 : decode method_2_code 26 = .ok (.if_icmp .ne 7, 3) := by decide +kernel
theorem d_m_2_29 : decode method_2_code 29 = .ok (.iconst 1, 1) := by decide +kernel
theorem d_m_2_30 : decode method_2_code 30 = .ok (.goto 4, 3) := by decide +kernel
theorem d_m_2_34 : decode method_2_code 34 = .ok (.ireturn, 1) := by decide +kernel
theorem pd_0 : parseMethodDescriptor "()V" = some ⟨[], none⟩ := by decide +kernel
theorem pd_1 : parseMethodDescriptor "(B)V" = some ⟨[.byte], none⟩ := by decide +kernel
theorem pd_2 : parseMethodDescriptor "(I)V" = some ⟨[.int], none⟩ := by decide +kernel
theorem pd_3 : parseMethodDescriptor "(II)I" = some ⟨[.int, .int], some .int⟩ := by decide +kernel
theorem pd_4 : parseMethodDescriptor "()Z" = some ⟨[], some .boolean⟩ := by decide +kernel
theorem pd_5 : parseMethodDescriptor "(II)V" = some ⟨[.int, .int], none⟩ := by decide +kernel
theorem pd_6 : parseMethodDescriptor "([BI)[B" = some ⟨[(.array .byte), .int], some (.array .byte)⟩ := by decide +kernel
theorem pd_7 : parseMethodDescriptor "(IIII)V" = some ⟨[.int, .int, .int, .int], none⟩ := by decide +kernel
theorem pd_8 : parseMethodDescriptor "(II)Lcom/example/glowworm/glowworm/NetlinkWriter;" = some ⟨[.int, .int], some (.object "com/example/glowworm/glowworm/NetlinkWriter")⟩ := by decide +kernel
theorem pd_9 : parseMethodDescriptor "()[B" = some ⟨[], some (.array .byte)⟩ := by decide +kernel
theorem pd_10 : parseMethodDescriptor "([BII)Z" = some ⟨[(.array .byte), .int, .int], some .boolean⟩ := by decide +kernel
theorem pn_0 : plainName "java/util/AbstractCollection" = true := by first | (simp [plainName, overriddenIn]; done) | decide +kernel
theorem pn_1 : plainName "java/util/ArrayDeque" = true := by first | (simp [plainName, overriddenIn]; done) | decide +kernel
theorem pn_2 : plainName "com/example/glowworm/glowworm/NetlinkWriter" = true := by first | (simp [plainName, overriddenIn]; done) | decide +kernel
theorem pn_3 : plainName "java/util/Arrays" = true := by first | (simp [plainName, overriddenIn]; done) | decide +kernel
theorem pn_4 : plainName "com/example/glowworm/glowworm/NetlinkWriterGenlHeaderPinLaw" = true := by first | (simp [plainName, overriddenIn]; done) | decide +kernel
theorem own_lt32 {x y : Int32} : x < y ↔ x.toInt < y.toInt := Int32.lt_iff_toInt_lt
theorem own_eq32 {x y : Int32} : x = y ↔ x.toInt = y.toInt := Int32.toInt_inj.symm
theorem own_i0 : (0 : Int32).toInt = 0 := rfl
theorem own_i1 : (1 : Int32).toInt = 1 := rfl
theorem own_nat {j z : Int32} (h0 : ¬ j < 0) (h : j < z) : j.toNatClampNeg < z.toNatClampNeg := by
  have a := nat_of h0
  have hz : ¬ z < 0 := by rw [own_lt32] at *; rw [own_i0] at *; omega
  have b := nat_of hz
  rw [own_lt32] at h; omega
theorem own_mx {x v : Int32} (h : (x &&& (2147483647 : Int32)) = v) : ¬ v < (0 : Int32) := by
  have e := c_mask x 2147483647 31 (by decide) (by decide)
  rw [h] at e; rw [own_lt32, own_i0]; omega
theorem own_mx1 {x v : Int32} (h : (x &&& (2147483647 : Int32)) = v) (h0 : ¬ v = 0) : ¬ v < (1 : Int32) := by
  have e := c_mask x 2147483647 31 (by decide) (by decide)
  rw [h] at e; rw [own_eq32, own_i0] at h0; rw [own_lt32, own_i1]; omega
theorem own_rem3 {x v : Int32} (h0 : ¬ x < (0 : Int32)) (h : (x % (3 : Int32)) = v) : v = (0 : Int32) ∨ v = (1 : Int32) ∨ v = (2 : Int32) := by
  have e := (c_irem x 3 3 rfl).1 (by rw [own_lt32, own_i0] at h0; omega)
  rw [h] at e
  have : v.toInt = 0 ∨ v.toInt = 1 ∨ v.toInt = 2 := by omega
  rcases this with q | q | q
  · left; exact Int32.toInt_inj.mp q
  · right; left; exact Int32.toInt_inj.mp q
  · right; right; exact Int32.toInt_inj.mp q
theorem own_ushr0 (x q : Int32) (k : Nat) (hk : q.toBitVec.toNat % 32 = k) (hk0 : 0 < k) : ¬ ((x.toUInt32 >>> (q &&& 31).toUInt32).toInt32) < (0 : Int32) := by
  have e := c_iushr x q k hk hk0
  rw [own_lt32, e, own_i0]
  have : 0 ≤ (x.toInt % 4294967296) / ((2 ^ k : Nat) : Int) := Int.ediv_nonneg (Int.emod_nonneg _ (by decide)) (Int.natCast_nonneg _)
  omega
theorem own_lt {n : Int32} {x y : Int32} (h : x ≤ y) (h1 : n < x) : n < y := by
  rw [own_lt32] at *; rw [Int32.le_iff_toInt_le] at h; omega
theorem own_up1 {n y : Int32} (z : Int32) (h0 : ¬ n < (0 : Int32)) (h1 : n < y) (hy : y ≤ (60 : Int32) := by decide) (hz : y.toInt + 1 ≤ z.toInt := by decide) : ¬ (n + (1 : Int32)) < (0 : Int32) ∧ (n + (1 : Int32)) < z := by
  rw [own_lt32, own_i0] at h0; rw [own_lt32] at h1; rw [Int32.le_iff_toInt_le] at hy
  have e60 : (60 : Int32).toInt = 60 := rfl
  have c := c_iadd n 1
  have r := rng32 (n + 1)
  rw [own_i1] at c
  rw [own_lt32, own_lt32, own_i0]; omega
theorem own_up2 {n y : Int32} (z : Int32) (h0 : ¬ n < (0 : Int32)) (h1 : n < y) (hy : y ≤ (60 : Int32) := by decide) (hz : y.toInt + 2 ≤ z.toInt := by decide) : ¬ ((n + (1 : Int32)) + (1 : Int32)) < (0 : Int32) ∧ ((n + (1 : Int32)) + (1 : Int32)) < z := by
  rw [own_lt32, own_i0] at h0; rw [own_lt32] at h1; rw [Int32.le_iff_toInt_le] at hy
  have e60 : (60 : Int32).toInt = 60 := rfl
  have c := c_iadd n 1
  have r := rng32 (n + 1)
  have c2 := c_iadd (n + 1) 1
  have r2 := rng32 (n + 1 + 1)
  rw [own_i1] at c c2
  rw [own_lt32, own_lt32, own_i0]; omega
theorem own_byte (y : Int32) : (y.toInt8.toInt32 &&& (255 : Int32)).toInt = y.toInt % 256 := by
  have e := c_mask (y.toInt8.toInt32) 255 8 (by decide) (by decide)
  have b := c_i2b y
  rw [e]; omega
theorem own_long (x : Int32) : (x.toInt64).toInt = x.toInt := c_i2l x
theorem own_lin4 (a b c d : Int64) (ha : 0 ≤ a.toInt ∧ a.toInt < 256) (hb : 0 ≤ b.toInt ∧ b.toInt < 256) (hc : 0 ≤ c.toInt ∧ c.toInt < 256) (hd : 0 ≤ d.toInt ∧ d.toInt < 256) : (((a + (256 : Int64) * b) + (65536 : Int64) * c) + (16777216 : Int64) * d).toInt = a.toInt + 256 * b.toInt + 65536 * c.toInt + 16777216 * d.toInt := by
  have k1 : (256 : Int64).toInt = 256 := rfl
  have k2 : (65536 : Int64).toInt = 65536 := rfl
  have k3 : (16777216 : Int64).toInt = 16777216 := rfl
  have c1 := c_lmul 256 b
  have c2 := c_lmul 65536 c
  have c3 := c_lmul 16777216 d
  have r1 := rng64 (256 * b)
  have r2 := rng64 (65536 * c)
  have r3 := rng64 (16777216 * d)
  rw [k1] at c1; rw [k2] at c2; rw [k3] at c3
  have e1 : ((256 : Int64) * b).toInt = 256 * b.toInt := by omega
  have e2 : ((65536 : Int64) * c).toInt = 65536 * c.toInt := by omega
  have e3 : ((16777216 : Int64) * d).toInt = 16777216 * d.toInt := by omega
  clear c1 c2 c3 r1 r2 r3
  have c4 := c_ladd a (256 * b)
  have r4 := rng64 (a + 256 * b)
  rw [e1] at c4
  have e4 : (a + (256 : Int64) * b).toInt = a.toInt + 256 * b.toInt := by omega
  clear c4 r4
  have c5 := c_ladd (a + 256 * b) (65536 * c)
  have r5 := rng64 (a + 256 * b + 65536 * c)
  rw [e4, e2] at c5
  have e5 : ((a + (256 : Int64) * b) + (65536 : Int64) * c).toInt = a.toInt + 256 * b.toInt + 65536 * c.toInt := by omega
  clear c5 r5
  have c6 := c_ladd (a + 256 * b + 65536 * c) (16777216 * d)
  have r6 := rng64 (a + 256 * b + 65536 * c + 16777216 * d)
  rw [e5, e3] at c6
  omega
theorem own_plain4 {v w : Int} (hw : v % 4294967296 = w) : v % 256 + 256 * (w / 256 % 256) + 65536 * (w / 65536 % 256) + 16777216 * (w / 65536 % 4294967296 / 256 % 256) = w := by
  have h : v % 256 = w % 256 := by omega
  have b : 0 ≤ w ∧ w < 4294967296 := by omega
  rw [h]
  have e : w / 65536 % 4294967296 = w / 65536 := by omega
  rw [e]
  have e2 : w / 65536 = w / 256 / 256 := by omega
  rw [e2]
  have b1 : 0 ≤ w / 256 ∧ w / 256 < 16777216 := by omega
  have e3 : w = 256 * (w / 256) + w % 256 := by omega
  generalize w / 256 = d at *
  omega
theorem own_u32 (v : Int32) : ((((((v.toInt8.toInt32) &&& (255 : Int32)).toInt64) + ((256 : Int64) * (((((v.toUInt32 >>> ((8 : Int32) &&& 31).toUInt32).toInt32).toInt8.toInt32) &&& (255 : Int32)).toInt64))) + ((65536 : Int64) * (((((v.toUInt32 >>> ((16 : Int32) &&& 31).toUInt32).toInt32).toInt8.toInt32) &&& (255 : Int32)).toInt64))) + ((16777216 : Int64) * (((((((v.toUInt32 >>> ((16 : Int32) &&& 31).toUInt32).toInt32).toUInt32 >>> ((8 : Int32) &&& 31).toUInt32).toInt32).toInt8.toInt32) &&& (255 : Int32)).toInt64))) = (v.toInt64 &&& (4294967295 : Int64)) := by
  apply Int64.toInt_inj.mp
  have m := c_maskL v.toInt64 4294967295 32 (by decide) (by decide)
  have p32 : ((2 ^ 32 : Nat) : Int) = 4294967296 := rfl
  have p8 : ((2 ^ 8 : Nat) : Int) = 256 := rfl
  have p16 : ((2 ^ 16 : Nat) : Int) = 65536 := rfl
  rw [c_i2l, p32] at m
  have s8 := c_iushr v 8 8 (by decide) (by decide)
  have s16 := c_iushr v 16 16 (by decide) (by decide)
  have s24 := c_iushr ((v.toUInt32 >>> ((16 : Int32) &&& 31).toUInt32).toInt32) 8 8 (by decide) (by decide)
  have y0 := own_byte v
  have y1 := own_byte ((v.toUInt32 >>> ((8 : Int32) &&& 31).toUInt32).toInt32)
  have y2 := own_byte ((v.toUInt32 >>> ((16 : Int32) &&& 31).toUInt32).toInt32)
  have y3 := own_byte ((((v.toUInt32 >>> ((16 : Int32) &&& 31).toUInt32).toInt32).toUInt32 >>> ((8 : Int32) &&& 31).toUInt32).toInt32)
  rw [p8] at s8 s24
  rw [p16] at s16
  rw [s8] at y1; rw [s16] at y2 s24; rw [s24] at y3
  rw [m, own_lin4 _ _ _ _ (by rw [c_i2l, y0]; omega) (by rw [c_i2l, y1]; omega) (by rw [c_i2l, y2]; omega) (by rw [c_i2l, y3]; omega), c_i2l, c_i2l, c_i2l, c_i2l, y0, y1, y2, y3]
  exact own_plain4 rfl
theorem own_u16 (v : Int32) : (((v.toInt8.toInt32) &&& (255 : Int32)) ||| (((((v.toUInt32 >>> ((8 : Int32) &&& 31).toUInt32).toInt32).toInt8.toInt32) &&& (255 : Int32)) <<< ((8 : Int32) &&& 31))) = (v &&& (65535 : Int32)) := by
  apply Int32.toInt_inj.mp
  have m := c_mask v 65535 16 (by decide) (by decide)
  have s8 := c_iushr v 8 8 (by decide) (by decide)
  have y0 := own_byte v
  have y1 := own_byte ((v.toUInt32 >>> ((8 : Int32) &&& 31).toUInt32).toInt32)
  rw [s8] at y1
  have sh := c_ishl (((((v.toUInt32 >>> ((8 : Int32) &&& 31).toUInt32).toInt32).toInt8.toInt32) &&& (255 : Int32))) 8 8 (by decide)
  rw [y1] at sh
  have r := rng32 ((((((v.toUInt32 >>> ((8 : Int32) &&& 31).toUInt32).toInt32).toInt8.toInt32) &&& (255 : Int32))) <<< ((8 : Int32) &&& 31))
  have o := c_or' (((v.toInt8.toInt32) &&& (255 : Int32))) ((((((v.toUInt32 >>> ((8 : Int32) &&& 31).toUInt32).toInt32).toInt8.toInt32) &&& (255 : Int32))) <<< ((8 : Int32) &&& 31)) 8 (by decide) 256 rfl (by omega) (by omega) (by omega)
  rw [y0] at o
  have r2 := rng32 ((((v.toInt8.toInt32) &&& (255 : Int32)) ||| (((((v.toUInt32 >>> ((8 : Int32) &&& 31).toUInt32).toInt32).toInt8.toInt32) &&& (255 : Int32)) <<< ((8 : Int32) &&& 31))))
  rw [m]; omega
theorem own_b8 (v : Int32) : (v.toInt8.toInt32 &&& (255 : Int32)) = (v &&& (255 : Int32)) := by
  apply Int32.toInt_inj.mp
  rw [own_byte, c_mask v 255 8 (by decide) (by decide)]; rfl

def Q_acini (Z : State) (a : Addr) (h0 : Heap) (n0 : Nat) (v : Option Value) (h : Heap) (L : List Loc) : Prop := v = none ∧ Fr n0 L ∧ h = h0
theorem ef_acini (m : MethodId) (x0 : Addr) : entryFrame m #[(.ref x0)] 1 = mkF m 0 #[.val (.ref x0)] [] := by first | (simp [entryFrame, mkF, argsToLocals, Value.category]; done) | rfl
set_option maxRecDepth 65536 in
set_option maxHeartbeats 40000000 in
theorem rm_acini (l : Launch) (Z : State) (a0 : Array Value) (hw : ∀ d ∈ tables_1, d.before a0 Z = true) (a : Addr) (h0 : Heap) (n0 : Nat) (Z0 : n0 ≤ h0.size) :
    Ct l Z (⟨"java/util/AbstractCollection", "<init>", "()V"⟩ : MethodName) jdk_22_method_1_code 1 none [] ({ frames := 1, cells := 0, slots := 0, locals := 12 } : Room) #[(.ref a)] h0 (Q_acini Z a h0 n0) := by
  refine own_body (plainFor_of_name pn_0) (fun m => ef_acini m a) ?_
  intro p e s m below meth c T0 hx hby hml hZ hown hnm hret hlk X0 e0
  have N0 := Fr.nil n0
  refine g_aloadN X0 hx (hb hby d_jdk_22_m_1_0) rfl rfl rfl ?_
  refine g_initO X0 hx hZ hown (hw _ (List.mem_of_getElem? (i := 24) rfl)) (hw _ (List.mem_of_getElem? (i := 7) rfl)) (hw _ (List.mem_of_getElem? (i := 8) rfl)) e0 (by rw [hml]; rfl) (hb hby d_jdk_22_m_1_1) rfl (by decide) (W := 0) (Nat.le_of_eq rfl) (by decide) fun T1 X1 e1 => ?_
  exact g_ret X1 hx hret hlk (hb hby d_jdk_22_m_1_4) (by decide) (by decide) (by rw [e1]; exact ⟨rfl, N0, rfl⟩)
def Q_dqini (Z : State) (a : Addr) (h0 : Heap) (n0 : Nat) (v : Option Value) (h : Heap) (L : List Loc) : Prop := v = none ∧ Fr n0 L ∧ Keep h0 h [a] ∧ Exa Z h a "java/util/ArrayDeque" ∧ Fld Z h a "java/util/ArrayDeque" "head" "I" (.int (0 : Int32)) ∧ Fld Z h a "java/util/ArrayDeque" "tail" "I" (.int (0 : Int32))
theorem ef_dqini (m : MethodId) (x0 : Addr) : entryFrame m #[(.ref x0)] 1 = mkF m 0 #[.val (.ref x0)] [] := by first | (simp [entryFrame, mkF, argsToLocals, Value.category]; done) | rfl
set_option maxRecDepth 65536 in
set_option maxHeartbeats 40000000 in
theorem rm_dqini (l : Launch) (Z : State) (a0 : Array Value) (hw : ∀ d ∈ tables_1, d.before a0 Z = true) (a : Addr) (h0 : Heap) (n0 : Nat) (Z0 : n0 ≤ h0.size) (F_head_a : Fld Z h0 a "java/util/ArrayDeque" "head" "I" (.int (0 : Int32))) (F_tail_a : Fld Z h0 a "java/util/ArrayDeque" "tail" "I" (.int (0 : Int32))) (F_elements_a : Fld Z h0 a "java/util/ArrayDeque" "elements" "[Ljava/lang/Object;" .null) (E_a : Exa Z h0 a "java/util/ArrayDeque") (g_a : n0 ≤ a) :
    Ct l Z (⟨"java/util/ArrayDeque", "<init>", "()V"⟩ : MethodName) jdk_21_method_3_code 1 none [] ({ frames := 2, cells := 1, slots := 17, locals := 24 } : Room) #[(.ref a)] h0 (Q_dqini Z a h0 n0) := by
  refine own_body (plainFor_of_name pn_1) (fun m => ef_dqini m a) ?_
  intro p e s m below meth c T0 hx hby hml hZ hown hnm hret hlk X0 e0
  have N0 := Fr.nil n0
  refine g_aloadN X0 hx (hb hby d_jdk_21_m_3_0) rfl rfl rfl ?_
  refine g_special X0 hx hZ hown rfl (hw _ (List.mem_of_getElem? (i := 18) rfl)) (hw _ (List.mem_of_getElem? (i := 19) rfl)) (hw _ (List.mem_of_getElem? (i := 22) rfl)) (hw _ (List.mem_of_getElem? (i := 23) rfl)) (by decide) (a := a) (rm_acini l Z a0 hw a h0 n0 Z0) (by rw [hml]; rfl) e0 [] rfl rfl (W := 0) (Nat.le_of_eq rfl) (by decide) (by decide) (by decide) (by decide) (lenOf pd_0 rfl) (hb hby d_jdk_21_m_3_1) rfl fun v1 T1 L1 X1 hQ1 => ?_
  obtain ⟨rfl, Nq1, eh1⟩ := hQ1
  have N1 := Fr.app N0 Nq1
  show Ga _ _ _ _ _ _ _ _ _ _ _ []
  refine g_aloadN X1 hx (hb hby d_jdk_21_m_3_4) rfl rfl rfl ?_
  refine g_bipush X1 hx (r := (17 : Int32)) (hb hby d_jdk_21_m_3_5) rfl rfl ?_
  refine g_anewarray X1 hx hZ hown (hw _ (List.mem_of_getElem? (i := 25) rfl)) (hw _ (List.mem_of_getElem? (i := 26) rfl)) eh1 (by decide) 17 (by decide) (by decide) (by decide) (by decide) (ad := "[Ljava/lang/Object;") (by decide) (hb hby d_jdk_21_m_3_7) rfl fun T2 h2 b2 ka2 X2 e2 q2 E2 A2 O2 V2 => ?_
  have ne_a_b2 : a ≠ b2 := own_ne F_head_a.lt q2
  have g_b2 : n0 ≤ b2 := Nat.le_trans Z0 (Nat.le_of_eq q2.symm)
  have sz_b2 : h0.size ≤ b2 := Nat.le_trans (Keep.refl h0 [a]).1 (Nat.le_of_eq q2.symm)
  have Z2 : n0 ≤ h2.size := Nat.le_trans Z0 E2.1
  have kk2 : Keep h0 h2 [a] := (Keep.refl h0 [a]).ext E2
  have Vn2 : Arv Z h2 b2 ka2 (.object "java/lang/Object") (17 : Int32) [.null, .null, .null, .null, .null, .null, .null, .null, .null, .null, .null, .null, .null, .null, .null, .null, .null] .null := V2
  have f4 : Fld Z h2 a "java/util/ArrayDeque" "elements" "[Ljava/lang/Object;" .null := (F_elements_a.ext E2)
  have f5 : Exa Z h2 a "java/util/ArrayDeque" := (E_a.ext E2)
  refine g_putF X2 hx hZ hown (host := "") (Or.inl (hw _ (List.mem_of_getElem? (i := 27) rfl))) Via.refl e2 f4 f5 (Or.inl (hw _ (List.mem_of_getElem? (i := 28) rfl))) (hw _ (List.mem_of_getElem? (i := 13) rfl)) (ty := (.array (.object "java/lang/Object"))) (by decide) rfl rfl (hb hby d_jdk_21_m_3_10) rfl fun T3 h3 X3 e3 W3 F3 => ?_
  have kk3 : Keep h0 h3 [a] := kk2.wr W3 (Or.inl (by simp))
  have N3 := Fr.snoc X3 N1 g_a
  have Z3 : n0 ≤ h3.size := by rw [W3.size]; exact Z2
  have f6 : Exa Z h3 a "java/util/ArrayDeque" := (f5.wr W3)
  have f7 : Fld Z h3 a "java/util/ArrayDeque" "head" "I" (.int (0 : Int32)) := ((F_head_a.ext E2).other W3 (Or.inr (slot_ne (Or.inl (hw _ (List.mem_of_getElem? (i := 65) rfl))) (Or.inl (hw _ (List.mem_of_getElem? (i := 28) rfl))) (by decide) (t := .int) (t' := (.array (.object "java/lang/Object"))) (by decide) (by decide))))
  have f8 : Fld Z h3 a "java/util/ArrayDeque" "tail" "I" (.int (0 : Int32)) := ((F_tail_a.ext E2).other W3 (Or.inr (slot_ne (Or.inl (hw _ (List.mem_of_getElem? (i := 67) rfl))) (Or.inl (hw _ (List.mem_of_getElem? (i := 28) rfl))) (by decide) (t := .int) (t' := (.array (.object "java/lang/Object"))) (by decide) (by decide))))
  exact g_ret X3 hx hret hlk (hb hby d_jdk_21_m_3_13) (by decide) (by decide) (by rw [e3]; exact ⟨rfl, N3, kk3, f6, f7, f8⟩)
def Q_dqemp (Z : State) (a : Addr) (h0 : Heap) (n0 : Nat) (v : Option Value) (h : Heap) (L : List Loc) : Prop := v = some (.int (1 : Int32)) ∧ Fr n0 L ∧ h = h0
theorem ef_dqemp (m : MethodId) (x0 : Addr) : entryFrame m #[(.ref x0)] 1 = mkF m 0 #[.val (.ref x0)] [] := by first | (simp [entryFrame, mkF, argsToLocals, Value.category]; done) | rfl
set_option maxRecDepth 65536 in
set_option maxHeartbeats 40000000 in
theorem rm_dqemp (l : Launch) (Z : State) (a0 : Array Value) (hw : ∀ d ∈ tables_1, d.before a0 Z = true) (a : Addr) (h0 : Heap) (n0 : Nat) (Z0 : n0 ≤ h0.size) (F_head_a : Fld Z h0 a "java/util/ArrayDeque" "head" "I" (.int (0 : Int32))) (F_tail_a : Fld Z h0 a "java/util/ArrayDeque" "tail" "I" (.int (0 : Int32))) :
    Ct l Z (⟨"java/util/ArrayDeque", "isEmpty", "()Z"⟩ : MethodName) jdk_21_method_38_code 1 (some .boolean) [] ({ frames := 0, cells := 0, slots := 0, locals := 0 } : Room) #[(.ref a)] h0 (Q_dqemp Z a h0 n0) := by
  refine own_body (plainFor_of_name pn_1) (fun m => ef_dqemp m a) ?_
  intro p e s m below meth c T0 hx hby hml hZ hown hnm hret hlk X0 e0
  have N0 := Fr.nil n0
  refine g_aloadN X0 hx (hb hby d_jdk_21_m_38_0) rfl rfl rfl ?_
  refine g_getF X0 hx hZ hown (host := "") (Or.inl (hw _ (List.mem_of_getElem? (i := 64) rfl))) Via.refl e0 F_head_a (hb hby d_jdk_21_m_38_1) rfl fun T1 X1 e1 => ?_
  refine g_aloadN X1 hx (hb hby d_jdk_21_m_38_4) rfl rfl rfl ?_
  refine g_getF X1 hx hZ hown (host := "") (Or.inl (hw _ (List.mem_of_getElem? (i := 66) rfl))) Via.refl e1 F_tail_a (hb hby d_jdk_21_m_38_5) rfl fun T2 X2 e2 => ?_
  refine g_icmpN X2 hx (hb hby d_jdk_21_m_38_8) rfl (XT.ii_ne_f (by decide : (0 : Int32) = (0 : Int32))) ?_
  refine g_iconst X2 hx (r := (1 : Int32)) (hb hby d_jdk_21_m_38_11) rfl rfl ?_
  refine g_goto X2 hx (q := 16) (hb hby d_jdk_21_m_38_12) (by decide) (by decide) ?_
  exact g_retN X2 hx (t := .boolean) (r := (1 : Int32)) hret (by simp) hlk (hb hby d_jdk_21_m_38_16) rfl (by decide) (by decide) (by rw [e2]; exact ⟨rfl, N0, rfl⟩)
def Q_put (Z : State) (a : Addr) (b : Addr) (dq : Addr) (ka : ClassId) (n : Int32) (vs : List Value) (x : Int32) (h0 : Heap) (n0 : Nat) (v : Option Value) (h : Heap) (L : List Loc) : Prop := v = none ∧ Fr n0 L ∧ Keep h0 h [a, b] ∧ Exa Z h a "com/example/glowworm/glowworm/NetlinkWriter" ∧ Fld Z h a "com/example/glowworm/glowworm/NetlinkWriter" "length" "I" (.int (n + (1 : Int32))) ∧ Fld Z h a "com/example/glowworm/glowworm/NetlinkWriter" "bytes" "[B" (.ref b) ∧ Fld Z h a "com/example/glowworm/glowworm/NetlinkWriter" "openNests" "Ljava/util/Deque;" (.ref dq) ∧ Arv Z h b ka .byte (64 : Int32) (List.set vs (n).toNatClampNeg (.int x)) (.int (0 : Int32))
theorem ef_put (m : MethodId) (x0 : Addr) (x1 : Int32) : entryFrame m #[(.ref x0), (.int x1)] 2 = mkF m 0 #[.val (.ref x0), .val (.int x1)] [] := by first | (simp [entryFrame, mkF, argsToLocals, Value.category]; done) | rfl
set_option maxRecDepth 65536 in
set_option maxHeartbeats 40000000 in
theorem rm_put (l : Launch) (Z : State) (a0 : Array Value) (hw : ∀ d ∈ tables_1, d.before a0 Z = true) (a : Addr) (b : Addr) (dq : Addr) (ka : ClassId) (n : Int32) (vs : List Value) (x : Int32) (h0 : Heap) (n0 : Nat) (Z0 : n0 ≤ h0.size) (F_length_a : Fld Z h0 a "com/example/glowworm/glowworm/NetlinkWriter" "length" "I" (.int n)) (F_bytes_a : Fld Z h0 a "com/example/glowworm/glowworm/NetlinkWriter" "bytes" "[B" (.ref b)) (F_openNests_a : Fld Z h0 a "com/example/glowworm/glowworm/NetlinkWriter" "openNests" "Ljava/util/Deque;" (.ref dq)) (V_b : Arv Z h0 b ka .byte (64 : Int32) vs (.int (0 : Int32))) (E_a : Exa Z h0 a "com/example/glowworm/glowworm/NetlinkWriter") (g_a : n0 ≤ a) (g_b : n0 ≤ b) (ne_a_b : a ≠ b) (hn0 : ¬ n < (0 : Int32)) (hn1 : n < (64 : Int32)) (hle : vs.length = 64) (hxb : x.toInt8.toInt32 = x) :
    Ct l Z (⟨"com/example/glowworm/glowworm/NetlinkWriter", "put", "(B)V"⟩ : MethodName) prog_15_method_19_code 2 none [] ({ frames := 0, cells := 0, slots := 0, locals := 0 } : Room) #[(.ref a), (.int x)] h0 (Q_put Z a b dq ka n vs x h0 n0) := by
  refine own_body (plainFor_of_name pn_2) (fun m => ef_put m a x) ?_
  intro p e s m below meth c T0 hx hby hml hZ hown hnm hret hlk X0 e0
  have N0 := Fr.nil n0
  refine g_aloadN X0 hx (hb hby d_prog_15_m_19_0) rfl rfl rfl ?_
  refine g_getF X0 hx hZ hown (host := "") (Or.inl (hw _ (List.mem_of_getElem? (i := 43) rfl))) Via.refl e0 F_length_a (hb hby d_prog_15_m_19_1) rfl fun T1 X1 e1 => ?_
  refine g_aloadN X1 hx (hb hby d_prog_15_m_19_4) rfl rfl rfl ?_
  refine g_getF X1 hx hZ hown (host := "") (Or.inl (hw _ (List.mem_of_getElem? (i := 10) rfl))) Via.refl e1 F_bytes_a (hb hby d_prog_15_m_19_5) rfl fun T2 X2 e2 => ?_
  refine g_len X2 hx hZ e2 V_b (hb hby d_prog_15_m_19_8) rfl ?_
  have hc9 : ¬ n = (64 : Int32) := (fun q => absurd hn1 (by rw [q]; decide))
  refine g_icmpY X2 hx (q := 30) (hb hby d_prog_15_m_19_9) (XT.ii_ne_t hc9) (by decide) (by decide) ?_
  refine g_aloadN X2 hx (hb hby d_prog_15_m_19_30) rfl rfl rfl ?_
  refine g_getF X2 hx hZ hown (host := "") (Or.inl (hw _ (List.mem_of_getElem? (i := 10) rfl))) Via.refl e2 F_bytes_a (hb hby d_prog_15_m_19_31) rfl fun T3 X3 e3 => ?_
  refine g_aloadN X3 hx (hb hby d_prog_15_m_19_34) rfl rfl rfl ?_
  refine g_dup X3 hx (hb hby d_prog_15_m_19_35) rfl rfl ?_
  refine g_getF X3 hx hZ hown (host := "") (Or.inl (hw _ (List.mem_of_getElem? (i := 43) rfl))) Via.refl e3 F_length_a (hb hby d_prog_15_m_19_36) rfl fun T4 X4 e4 => ?_
  refine g_dup_x1 X4 hx (hb hby d_prog_15_m_19_39) rfl rfl rfl ?_
  refine g_iconst X4 hx (r := (1 : Int32)) (hb hby d_prog_15_m_19_40) rfl rfl ?_
  refine g_iadd X4 hx (hb hby d_prog_15_m_19_41) rfl rfl ?_
  refine g_putF X4 hx hZ hown (host := "") (Or.inl (hw _ (List.mem_of_getElem? (i := 43) rfl))) Via.refl e4 F_length_a E_a (Or.inl (hw _ (List.mem_of_getElem? (i := 44) rfl))) (hw _ (List.mem_of_getElem? (i := 1) rfl)) (ty := .int) (by decide) rfl rfl (hb hby d_prog_15_m_19_42) rfl fun T5 h5 X5 e5 W5 F5 => ?_
  have kk5 : Keep h0 h5 [a, b] := (Keep.refl h0 [a, b]).wr W5 (Or.inl (by simp))
  have N5 := Fr.snoc X5 N0 g_a
  have Z5 : n0 ≤ h5.size := by rw [W5.size]; exact Z0
  refine g_iloadN X5 hx (hb hby d_prog_15_m_19_45) rfl rfl ?_
  have f6 : Arv Z h5 b ka .byte (64 : Int32) vs (.int (0 : Int32)) := (V_b.other W5 (Ne.symm ne_a_b))
  refine g_bastore X5 hx hZ e5 f6 ⟨hn0, hn1⟩ (by rw [hle]; exact own_nat hn0 hn1) (hb hby d_prog_15_m_19_46) rfl fun T7 h7 X7 e7 W7 V7 => ?_
  rw [own_nar, hxb] at V7
  have Vn7 : Arv Z h7 b ka .byte (64 : Int32) (List.set vs (n).toNatClampNeg (.int x)) (.int (0 : Int32)) := V7
  have kk7 : Keep h0 h7 [a, b] := kk5.wr W7 (Or.inl (by simp))
  have N7 := Fr.snoc X7 N5 g_b
  have Z7 : n0 ≤ h7.size := by rw [W7.size]; exact Z5
  have f8 : Exa Z h7 a "com/example/glowworm/glowworm/NetlinkWriter" := ((E_a.wr W5).wr W7)
  have f9 : Fld Z h7 a "com/example/glowworm/glowworm/NetlinkWriter" "length" "I" (.int (n + (1 : Int32))) := (F5.other W7 (Or.inl ne_a_b))
  have f10 : Fld Z h7 a "com/example/glowworm/glowworm/NetlinkWriter" "bytes" "[B" (.ref b) := ((F_bytes_a.other W5 (Or.inr (slot_ne (Or.inl (hw _ (List.mem_of_getElem? (i := 11) rfl))) (Or.inl (hw _ (List.mem_of_getElem? (i := 44) rfl))) (by decide) (t := (.array .byte)) (t' := .int) (by decide) (by decide)))).other W7 (Or.inl ne_a_b))
  have f11 : Fld Z h7 a "com/example/glowworm/glowworm/NetlinkWriter" "openNests" "Ljava/util/Deque;" (.ref dq) := ((F_openNests_a.other W5 (Or.inr (slot_ne (Or.inr (hw _ (List.mem_of_getElem? (i := 30) rfl))) (Or.inl (hw _ (List.mem_of_getElem? (i := 44) rfl))) (by decide) (t := (.object "java/util/Deque")) (t' := .int) (by decide) (by decide)))).other W7 (Or.inl ne_a_b))
  exact g_ret X7 hx hret hlk (hb hby d_prog_15_m_19_47) (by decide) (by decide) (by rw [e7]; exact ⟨rfl, N7, kk7, f8, f9, f10, f11, Vn7⟩)
def Q_pu16 (Z : State) (a : Addr) (b : Addr) (dq : Addr) (ka : ClassId) (n : Int32) (vs : List Value) (x : Int32) (h0 : Heap) (n0 : Nat) (v : Option Value) (h : Heap) (L : List Loc) : Prop := v = none ∧ Fr n0 L ∧ Keep h0 h [a, b] ∧ Exa Z h a "com/example/glowworm/glowworm/NetlinkWriter" ∧ Fld Z h a "com/example/glowworm/glowworm/NetlinkWriter" "length" "I" (.int ((n + (1 : Int32)) + (1 : Int32))) ∧ Fld Z h a "com/example/glowworm/glowworm/NetlinkWriter" "bytes" "[B" (.ref b) ∧ Fld Z h a "com/example/glowworm/glowworm/NetlinkWriter" "openNests" "Ljava/util/Deque;" (.ref dq) ∧ Arv Z h b ka .byte (64 : Int32) (List.set (List.set vs (n).toNatClampNeg (.int (x.toInt8.toInt32))) ((n + (1 : Int32))).toNatClampNeg (.int (((x.toUInt32 >>> ((8 : Int32) &&& 31).toUInt32).toInt32).toInt8.toInt32))) (.int (0 : Int32))
theorem ef_pu16 (m : MethodId) (x0 : Addr) (x1 : Int32) : entryFrame m #[(.ref x0), (.int x1)] 2 = mkF m 0 #[.val (.ref x0), .val (.int x1)] [] := by first | (simp [entryFrame, mkF, argsToLocals, Value.category]; done) | rfl
set_option maxRecDepth 65536 in
set_option maxHeartbeats 40000000 in
theorem rm_pu16 (l : Launch) (Z : State) (a0 : Array Value) (hw : ∀ d ∈ tables_1, d.before a0 Z = true) (a : Addr) (b : Addr) (dq : Addr) (ka : ClassId) (n : Int32) (vs : List Value) (x : Int32) (h0 : Heap) (n0 : Nat) (Z0 : n0 ≤ h0.size) (F_length_a : Fld Z h0 a "com/example/glowworm/glowworm/NetlinkWriter" "length" "I" (.int n)) (F_bytes_a : Fld Z h0 a "com/example/glowworm/glowworm/NetlinkWriter" "bytes" "[B" (.ref b)) (F_openNests_a : Fld Z h0 a "com/example/glowworm/glowworm/NetlinkWriter" "openNests" "Ljava/util/Deque;" (.ref dq)) (V_b : Arv Z h0 b ka .byte (64 : Int32) vs (.int (0 : Int32))) (E_a : Exa Z h0 a "com/example/glowworm/glowworm/NetlinkWriter") (g_a : n0 ≤ a) (g_b : n0 ≤ b) (ne_a_b : a ≠ b) (hn0 : ¬ n < (0 : Int32)) (hn1 : n < (60 : Int32)) (hle : vs.length = 64) :
    Ct l Z (⟨"com/example/glowworm/glowworm/NetlinkWriter", "putU16", "(I)V"⟩ : MethodName) prog_15_method_16_code 2 none [] ({ frames := 1, cells := 0, slots := 0, locals := 13 } : Room) #[(.ref a), (.int x)] h0 (Q_pu16 Z a b dq ka n vs x h0 n0) := by
  refine own_body (plainFor_of_name pn_2) (fun m => ef_pu16 m a x) ?_
  intro p e s m below meth c T0 hx hby hml hZ hown hnm hret hlk X0 e0
  have N0 := Fr.nil n0
  refine g_aloadN X0 hx (hb hby d_prog_15_m_16_0) rfl rfl rfl ?_
  refine g_iloadN X0 hx (hb hby d_prog_15_m_16_1) rfl rfl ?_
  refine g_i2b X0 hx (hb hby d_prog_15_m_16_2) rfl rfl ?_
  refine g_private X0 hx hZ hown (hw _ (List.mem_of_getElem? (i := 39) rfl)) (hw _ (List.mem_of_getElem? (i := 40) rfl)) (hw _ (List.mem_of_getElem? (i := 1) rfl)) (hw _ (List.mem_of_getElem? (i := 41) rfl)) (hw _ (List.mem_of_getElem? (i := 2) rfl)) (hw _ (List.mem_of_getElem? (i := 42) rfl)) (by decide) (a := a) E_a (rm_put l Z a0 hw a b dq ka n vs (x.toInt8.toInt32) h0 n0 Z0 F_length_a F_bytes_a F_openNests_a V_b E_a g_a g_b ne_a_b hn0 (own_lt (by decide) hn1) (by simp [hle]) (own_bb _)) (by rw [hml]; rfl) e0 [(.int (x.toInt8.toInt32))] rfl rfl (W := 0) (Nat.le_of_eq rfl) (by decide) (by decide) (by decide) (by decide) (lenOf pd_1 rfl) (hb hby d_prog_15_m_16_3) rfl fun v1 T1 L1 X1 hQ1 => ?_
  obtain ⟨rfl, Nq1, kc1, p1_0, p1_1, p1_2, p1_3, p1_4⟩ := hQ1
  have N1 := Fr.app N0 Nq1
  have kk1 : Keep h0 T1.heap [a, b] := (Keep.refl h0 [a, b]).trans kc1 (allS (Or.inl (by simp)) (allS (Or.inl (by simp)) all0))
  have Z1 : n0 ≤ T1.heap.size := Nat.le_trans Z0 kc1.1
  show Ga _ _ _ _ _ _ _ _ _ _ _ []
  refine g_aloadN X1 hx (hb hby d_prog_15_m_16_6) rfl rfl rfl ?_
  refine g_iloadN X1 hx (hb hby d_prog_15_m_16_7) rfl rfl ?_
  refine g_bipush X1 hx (r := (8 : Int32)) (hb hby d_prog_15_m_16_8) rfl rfl ?_
  refine g_iushr X1 hx (hb hby d_prog_15_m_16_10) rfl rfl ?_
  refine g_i2b X1 hx (hb hby d_prog_15_m_16_11) rfl rfl ?_
  refine g_private X1 hx hZ hown (hw _ (List.mem_of_getElem? (i := 39) rfl)) (hw _ (List.mem_of_getElem? (i := 40) rfl)) (hw _ (List.mem_of_getElem? (i := 1) rfl)) (hw _ (List.mem_of_getElem? (i := 41) rfl)) (hw _ (List.mem_of_getElem? (i := 2) rfl)) (hw _ (List.mem_of_getElem? (i := 42) rfl)) (by decide) (a := a) p1_0 (rm_put l Z a0 hw a b dq ka (n + (1 : Int32)) (List.set vs (n).toNatClampNeg (.int (x.toInt8.toInt32))) (((x.toUInt32 >>> ((8 : Int32) &&& 31).toUInt32).toInt32).toInt8.toInt32) T1.heap n0 Z1 p1_1 p1_2 p1_3 p1_4 p1_0 g_a g_b ne_a_b ((own_up1 (64 : Int32) hn0 hn1).1) ((own_up1 (64 : Int32) hn0 hn1).2) (by simp [hle]) (own_bb _)) (by rw [hml]; rfl) rfl [(.int (((x.toUInt32 >>> ((8 : Int32) &&& 31).toUInt32).toInt32).toInt8.toInt32))] rfl rfl (W := 0) (Nat.le_of_eq rfl) (by decide) (by decide) (by decide) (by decide) (lenOf pd_1 rfl) (hb hby d_prog_15_m_16_12) rfl fun v2 T2 L2 X2 hQ2 => ?_
  obtain ⟨rfl, Nq2, kc2, p2_0, p2_1, p2_2, p2_3, p2_4⟩ := hQ2
  have N2 := Fr.app N1 Nq2
  have kk2 : Keep h0 T2.heap [a, b] := kk1.trans kc2 (allS (Or.inl (by simp)) (allS (Or.inl (by simp)) all0))
  have Z2 : n0 ≤ T2.heap.size := Nat.le_trans Z1 kc2.1
  show Ga _ _ _ _ _ _ _ _ _ _ _ []
  exact g_ret X2 hx hret hlk (hb hby d_prog_15_m_16_15) (by decide) (by decide) ⟨rfl, N2, kk2, p2_0, p2_1, p2_2, p2_3, p2_4⟩
def Q_pu32 (Z : State) (a : Addr) (b : Addr) (dq : Addr) (ka : ClassId) (n : Int32) (vs : List Value) (x : Int32) (h0 : Heap) (n0 : Nat) (v : Option Value) (h : Heap) (L : List Loc) : Prop := v = none ∧ Fr n0 L ∧ Keep h0 h [a, b] ∧ Exa Z h a "com/example/glowworm/glowworm/NetlinkWriter" ∧ Fld Z h a "com/example/glowworm/glowworm/NetlinkWriter" "length" "I" (.int ((((n + (1 : Int32)) + (1 : Int32)) + (1 : Int32)) + (1 : Int32))) ∧ Fld Z h a "com/example/glowworm/glowworm/NetlinkWriter" "bytes" "[B" (.ref b) ∧ Fld Z h a "com/example/glowworm/glowworm/NetlinkWriter" "openNests" "Ljava/util/Deque;" (.ref dq) ∧ Arv Z h b ka .byte (64 : Int32) (List.set (List.set (List.set (List.set vs (n).toNatClampNeg (.int (x.toInt8.toInt32))) ((n + (1 : Int32))).toNatClampNeg (.int (((x.toUInt32 >>> ((8 : Int32) &&& 31).toUInt32).toInt32).toInt8.toInt32))) (((n + (1 : Int32)) + (1 : Int32))).toNatClampNeg (.int (((x.toUInt32 >>> ((16 : Int32) &&& 31).toUInt32).toInt32).toInt8.toInt32))) ((((n + (1 : Int32)) + (1 : Int32)) + (1 : Int32))).toNatClampNeg (.int (((((x.toUInt32 >>> ((16 : Int32) &&& 31).toUInt32).toInt32).toUInt32 >>> ((8 : Int32) &&& 31).toUInt32).toInt32).toInt8.toInt32))) (.int (0 : Int32))
theorem ef_pu32 (m : MethodId) (x0 : Addr) (x1 : Int32) : entryFrame m #[(.ref x0), (.int x1)] 2 = mkF m 0 #[.val (.ref x0), .val (.int x1)] [] := by first | (simp [entryFrame, mkF, argsToLocals, Value.category]; done) | rfl
set_option maxRecDepth 65536 in
set_option maxHeartbeats 40000000 in
theorem rm_pu32 (l : Launch) (Z : State) (a0 : Array Value) (hw : ∀ d ∈ tables_1, d.before a0 Z = true) (a : Addr) (b : Addr) (dq : Addr) (ka : ClassId) (n : Int32) (vs : List Value) (x : Int32) (h0 : Heap) (n0 : Nat) (Z0 : n0 ≤ h0.size) (F_length_a : Fld Z h0 a "com/example/glowworm/glowworm/NetlinkWriter" "length" "I" (.int n)) (F_bytes_a : Fld Z h0 a "com/example/glowworm/glowworm/NetlinkWriter" "bytes" "[B" (.ref b)) (F_openNests_a : Fld Z h0 a "com/example/glowworm/glowworm/NetlinkWriter" "openNests" "Ljava/util/Deque;" (.ref dq)) (V_b : Arv Z h0 b ka .byte (64 : Int32) vs (.int (0 : Int32))) (E_a : Exa Z h0 a "com/example/glowworm/glowworm/NetlinkWriter") (g_a : n0 ≤ a) (g_b : n0 ≤ b) (ne_a_b : a ≠ b) (hn0 : ¬ n < (0 : Int32)) (hn1 : n < (56 : Int32)) (hle : vs.length = 64) :
    Ct l Z (⟨"com/example/glowworm/glowworm/NetlinkWriter", "putU32", "(I)V"⟩ : MethodName) prog_15_method_17_code 2 none [] ({ frames := 2, cells := 0, slots := 0, locals := 26 } : Room) #[(.ref a), (.int x)] h0 (Q_pu32 Z a b dq ka n vs x h0 n0) := by
  refine own_body (plainFor_of_name pn_2) (fun m => ef_pu32 m a x) ?_
  intro p e s m below meth c T0 hx hby hml hZ hown hnm hret hlk X0 e0
  have N0 := Fr.nil n0
  refine g_aloadN X0 hx (hb hby d_prog_15_m_17_0) rfl rfl rfl ?_
  refine g_iloadN X0 hx (hb hby d_prog_15_m_17_1) rfl rfl ?_
  refine g_private X0 hx hZ hown (hw _ (List.mem_of_getElem? (i := 35) rfl)) (hw _ (List.mem_of_getElem? (i := 36) rfl)) (hw _ (List.mem_of_getElem? (i := 1) rfl)) (hw _ (List.mem_of_getElem? (i := 37) rfl)) (hw _ (List.mem_of_getElem? (i := 2) rfl)) (hw _ (List.mem_of_getElem? (i := 38) rfl)) (by decide) (a := a) E_a (rm_pu16 l Z a0 hw a b dq ka n vs x h0 n0 Z0 F_length_a F_bytes_a F_openNests_a V_b E_a g_a g_b ne_a_b hn0 (own_lt (by decide) hn1) (by simp [hle])) (by rw [hml]; rfl) e0 [(.int x)] rfl rfl (W := 0) (Nat.le_of_eq rfl) (by decide) (by decide) (by decide) (by decide) (lenOf pd_2 rfl) (hb hby d_prog_15_m_17_2) rfl fun v1 T1 L1 X1 hQ1 => ?_
  obtain ⟨rfl, Nq1, kc1, p1_0, p1_1, p1_2, p1_3, p1_4⟩ := hQ1
  have N1 := Fr.app N0 Nq1
  have kk1 : Keep h0 T1.heap [a, b] := (Keep.refl h0 [a, b]).trans kc1 (allS (Or.inl (by simp)) (allS (Or.inl (by simp)) all0))
  have Z1 : n0 ≤ T1.heap.size := Nat.le_trans Z0 kc1.1
  show Ga _ _ _ _ _ _ _ _ _ _ _ []
  refine g_aloadN X1 hx (hb hby d_prog_15_m_17_5) rfl rfl rfl ?_
  refine g_iloadN X1 hx (hb hby d_prog_15_m_17_6) rfl rfl ?_
  refine g_bipush X1 hx (r := (16 : Int32)) (hb hby d_prog_15_m_17_7) rfl rfl ?_
  refine g_iushr X1 hx (hb hby d_prog_15_m_17_9) rfl rfl ?_
  refine g_private X1 hx hZ hown (hw _ (List.mem_of_getElem? (i := 35) rfl)) (hw _ (List.mem_of_getElem? (i := 36) rfl)) (hw _ (List.mem_of_getElem? (i := 1) rfl)) (hw _ (List.mem_of_getElem? (i := 37) rfl)) (hw _ (List.mem_of_getElem? (i := 2) rfl)) (hw _ (List.mem_of_getElem? (i := 38) rfl)) (by decide) (a := a) p1_0 (rm_pu16 l Z a0 hw a b dq ka ((n + (1 : Int32)) + (1 : Int32)) (List.set (List.set vs (n).toNatClampNeg (.int (x.toInt8.toInt32))) ((n + (1 : Int32))).toNatClampNeg (.int (((x.toUInt32 >>> ((8 : Int32) &&& 31).toUInt32).toInt32).toInt8.toInt32))) ((x.toUInt32 >>> ((16 : Int32) &&& 31).toUInt32).toInt32) T1.heap n0 Z1 p1_1 p1_2 p1_3 p1_4 p1_0 g_a g_b ne_a_b ((own_up2 (60 : Int32) hn0 hn1).1) ((own_up2 (60 : Int32) hn0 hn1).2) (by simp [hle])) (by rw [hml]; rfl) rfl [(.int ((x.toUInt32 >>> ((16 : Int32) &&& 31).toUInt32).toInt32))] rfl rfl (W := 0) (Nat.le_of_eq rfl) (by decide) (by decide) (by decide) (by decide) (lenOf pd_2 rfl) (hb hby d_prog_15_m_17_10) rfl fun v2 T2 L2 X2 hQ2 => ?_
  obtain ⟨rfl, Nq2, kc2, p2_0, p2_1, p2_2, p2_3, p2_4⟩ := hQ2
  have N2 := Fr.app N1 Nq2
  have kk2 : Keep h0 T2.heap [a, b] := kk1.trans kc2 (allS (Or.inl (by simp)) (allS (Or.inl (by simp)) all0))
  have Z2 : n0 ≤ T2.heap.size := Nat.le_trans Z1 kc2.1
  show Ga _ _ _ _ _ _ _ _ _ _ _ []
  exact g_ret X2 hx hret hlk (hb hby d_prog_15_m_17_13) (by decide) (by decide) ⟨rfl, N2, kk2, p2_0, p2_1, p2_2, p2_3, p2_4⟩
def Q_nini (Z : State) (a : Addr) (y1 : Int32) (y2 : Int32) (y3 : Int32) (y4 : Int32) (h0 : Heap) (n0 : Nat) (v : Option Value) (h : Heap) (L : List Loc) : Prop := ∃ (b : Addr) (ka : ClassId) (dq : Addr), v = none ∧ Fr n0 L ∧ Keep h0 h [a] ∧ h0.size ≤ b ∧ h0.size ≤ dq ∧ b ≠ dq ∧ Exa Z h a "com/example/glowworm/glowworm/NetlinkWriter" ∧ Exa Z h dq "java/util/ArrayDeque" ∧ Fld Z h dq "java/util/ArrayDeque" "head" "I" (.int (0 : Int32)) ∧ Fld Z h dq "java/util/ArrayDeque" "tail" "I" (.int (0 : Int32)) ∧ Fld Z h a "com/example/glowworm/glowworm/NetlinkWriter" "length" "I" (.int (16 : Int32)) ∧ Fld Z h a "com/example/glowworm/glowworm/NetlinkWriter" "bytes" "[B" (.ref b) ∧ Fld Z h a "com/example/glowworm/glowworm/NetlinkWriter" "openNests" "Ljava/util/Deque;" (.ref dq) ∧ Arv Z h b ka .byte (64 : Int32) [(.int (0 : Int32)), (.int (0 : Int32)), (.int (0 : Int32)), (.int (0 : Int32)), (.int (y1.toInt8.toInt32)), (.int (((y1.toUInt32 >>> ((8 : Int32) &&& 31).toUInt32).toInt32).toInt8.toInt32)), (.int (y2.toInt8.toInt32)), (.int (((y2.toUInt32 >>> ((8 : Int32) &&& 31).toUInt32).toInt32).toInt8.toInt32)), (.int (y3.toInt8.toInt32)), (.int (((y3.toUInt32 >>> ((8 : Int32) &&& 31).toUInt32).toInt32).toInt8.toInt32)), (.int (((y3.toUInt32 >>> ((16 : Int32) &&& 31).toUInt32).toInt32).toInt8.toInt32)), (.int (((((y3.toUInt32 >>> ((16 : Int32) &&& 31).toUInt32).toInt32).toUInt32 >>> ((8 : Int32) &&& 31).toUInt32).toInt32).toInt8.toInt32)), (.int (y4.toInt8.toInt32)), (.int (((y4.toUInt32 >>> ((8 : Int32) &&& 31).toUInt32).toInt32).toInt8.toInt32)), (.int (((y4.toUInt32 >>> ((16 : Int32) &&& 31).toUInt32).toInt32).toInt8.toInt32)), (.int (((((y4.toUInt32 >>> ((16 : Int32) &&& 31).toUInt32).toInt32).toUInt32 >>> ((8 : Int32) &&& 31).toUInt32).toInt32).toInt8.toInt32)), (.int (0 : Int32)), (.int (0 : Int32)), (.int (0 : Int32)), (.int (0 : Int32)), (.int (0 : Int32)), (.int (0 : Int32)), (.int (0 : Int32)), (.int (0 : Int32)), (.int (0 : Int32)), (.int (0 : Int32)), (.int (0 : Int32)), (.int (0 : Int32)), (.int (0 : Int32)), (.int (0 : Int32)), (.int (0 : Int32)), (.int (0 : Int32)), (.int (0 : Int32)), (.int (0 : Int32)), (.int (0 : Int32)), (.int (0 : Int32)), (.int (0 : Int32)), (.int (0 : Int32)), (.int (0 : Int32)), (.int (0 : Int32)), (.int (0 : Int32)), (.int (0 : Int32)), (.int (0 : Int32)), (.int (0 : Int32)), (.int (0 : Int32)), (.int (0 : Int32)), (.int (0 : Int32)), (.int (0 : Int32)), (.int (0 : Int32)), (.int (0 : Int32)), (.int (0 : Int32)), (.int (0 : Int32)), (.int (0 : Int32)), (.int (0 : Int32)), (.int (0 : Int32)), (.int (0 : Int32)), (.int (0 : Int32)), (.int (0 : Int32)), (.int (0 : Int32)), (.int (0 : Int32)), (.int (0 : Int32)), (.int (0 : Int32)), (.int (0 : Int32)), (.int (0 : Int32))] (.int (0 : Int32))
theorem ef_nini (m : MethodId) (x0 : Addr) (x1 : Int32) (x2 : Int32) (x3 : Int32) (x4 : Int32) : entryFrame m #[(.ref x0), (.int x1), (.int x2), (.int x3), (.int x4)] 5 = mkF m 0 #[.val (.ref x0), .val (.int x1), .val (.int x2), .val (.int x3), .val (.int x4)] [] := by first | (simp [entryFrame, mkF, argsToLocals, Value.category]; done) | rfl
set_option maxRecDepth 65536 in
set_option maxHeartbeats 40000000 in
theorem rm_nini (l : Launch) (Z : State) (a0 : Array Value) (hw : ∀ d ∈ tables_1, d.before a0 Z = true) (a : Addr) (y1 : Int32) (y2 : Int32) (y3 : Int32) (y4 : Int32) (h0 : Heap) (n0 : Nat) (Z0 : n0 ≤ h0.size) (F_length_a : Fld Z h0 a "com/example/glowworm/glowworm/NetlinkWriter" "length" "I" (.int (0 : Int32))) (F_bytes_a : Fld Z h0 a "com/example/glowworm/glowworm/NetlinkWriter" "bytes" "[B" .null) (F_openNests_a : Fld Z h0 a "com/example/glowworm/glowworm/NetlinkWriter" "openNests" "Ljava/util/Deque;" .null) (E_a : Exa Z h0 a "com/example/glowworm/glowworm/NetlinkWriter") (g_a : n0 ≤ a) :
    Ct l Z (⟨"com/example/glowworm/glowworm/NetlinkWriter", "<init>", "(IIII)V"⟩ : MethodName) prog_15_method_1_code 5 none [] ({ frames := 3, cells := 3, slots := 84, locals := 39 } : Room) #[(.ref a), (.int y1), (.int y2), (.int y3), (.int y4)] h0 (Q_nini Z a y1 y2 y3 y4 h0 n0) := by
  refine own_body (plainFor_of_name pn_2) (fun m => ef_nini m a y1 y2 y3 y4) ?_
  intro p e s m below meth c T0 hx hby hml hZ hown hnm hret hlk X0 e0
  have N0 := Fr.nil n0
  refine g_aloadN X0 hx (hb hby d_prog_15_m_1_0) rfl rfl rfl ?_
  refine g_initO X0 hx hZ hown (hw _ (List.mem_of_getElem? (i := 6) rfl)) (hw _ (List.mem_of_getElem? (i := 7) rfl)) (hw _ (List.mem_of_getElem? (i := 8) rfl)) e0 (by rw [hml]; rfl) (hb hby d_prog_15_m_1_1) rfl (by decide) (W := 0) (Nat.le_of_eq rfl) (by decide) fun T1 X1 e1 => ?_
  refine g_aloadN X1 hx (hb hby d_prog_15_m_1_4) rfl rfl rfl ?_
  refine g_bipush X1 hx (r := (64 : Int32)) (hb hby d_prog_15_m_1_5) rfl rfl ?_
  refine g_newarray X1 hx hZ (aty := .byte) (hw _ (List.mem_of_getElem? (i := 9) rfl)) e1 (by decide) 64 (by decide) (by decide) (by decide) (by decide) (ad := "[B") (by decide) (hb hby d_prog_15_m_1_7) rfl fun T2 h2 b2 ka2 X2 e2 q2 E2 A2 V2 => ?_
  have ne_a_b2 : a ≠ b2 := own_ne F_length_a.lt q2
  have g_b2 : n0 ≤ b2 := Nat.le_trans Z0 (Nat.le_of_eq q2.symm)
  have sz_b2 : h0.size ≤ b2 := Nat.le_trans (Keep.refl h0 [a]).1 (Nat.le_of_eq q2.symm)
  have Z2 : n0 ≤ h2.size := Nat.le_trans Z0 E2.1
  have kk2 : Keep h0 h2 [a] := (Keep.refl h0 [a]).ext E2
  have Vn2 : Arv Z h2 b2 ka2 .byte (64 : Int32) [(.int (0 : Int32)), (.int (0 : Int32)), (.int (0 : Int32)), (.int (0 : Int32)), (.int (0 : Int32)), (.int (0 : Int32)), (.int (0 : Int32)), (.int (0 : Int32)), (.int (0 : Int32)), (.int (0 : Int32)), (.int (0 : Int32)), (.int (0 : Int32)), (.int (0 : Int32)), (.int (0 : Int32)), (.int (0 : Int32)), (.int (0 : Int32)), (.int (0 : Int32)), (.int (0 : Int32)), (.int (0 : Int32)), (.int (0 : Int32)), (.int (0 : Int32)), (.int (0 : Int32)), (.int (0 : Int32)), (.int (0 : Int32)), (.int (0 : Int32)), (.int (0 : Int32)), (.int (0 : Int32)), (.int (0 : Int32)), (.int (0 : Int32)), (.int (0 : Int32)), (.int (0 : Int32)), (.int (0 : Int32)), (.int (0 : Int32)), (.int (0 : Int32)), (.int (0 : Int32)), (.int (0 : Int32)), (.int (0 : Int32)), (.int (0 : Int32)), (.int (0 : Int32)), (.int (0 : Int32)), (.int (0 : Int32)), (.int (0 : Int32)), (.int (0 : Int32)), (.int (0 : Int32)), (.int (0 : Int32)), (.int (0 : Int32)), (.int (0 : Int32)), (.int (0 : Int32)), (.int (0 : Int32)), (.int (0 : Int32)), (.int (0 : Int32)), (.int (0 : Int32)), (.int (0 : Int32)), (.int (0 : Int32)), (.int (0 : Int32)), (.int (0 : Int32)), (.int (0 : Int32)), (.int (0 : Int32)), (.int (0 : Int32)), (.int (0 : Int32)), (.int (0 : Int32)), (.int (0 : Int32)), (.int (0 : Int32)), (.int (0 : Int32))] (.int (0 : Int32)) := V2
  have f4 : Fld Z h2 a "com/example/glowworm/glowworm/NetlinkWriter" "bytes" "[B" .null := (F_bytes_a.ext E2)
  have f5 : Exa Z h2 a "com/example/glowworm/glowworm/NetlinkWriter" := (E_a.ext E2)
  refine g_putF X2 hx hZ hown (host := "") (Or.inl (hw _ (List.mem_of_getElem? (i := 10) rfl))) Via.refl e2 f4 f5 (Or.inl (hw _ (List.mem_of_getElem? (i := 11) rfl))) (hw _ (List.mem_of_getElem? (i := 1) rfl)) (ty := (.array .byte)) (by decide) rfl rfl (hb hby d_prog_15_m_1_9) rfl fun T3 h3 X3 e3 W3 F3 => ?_
  have kk3 : Keep h0 h3 [a] := kk2.wr W3 (Or.inl (by simp))
  have N3 := Fr.snoc X3 N0 g_a
  have Z3 : n0 ≤ h3.size := by rw [W3.size]; exact Z2
  refine g_aloadN X3 hx (hb hby d_prog_15_m_1_12) rfl rfl rfl ?_
  have f7 : Fld Z h3 a "com/example/glowworm/glowworm/NetlinkWriter" "length" "I" (.int (0 : Int32)) := ((F_length_a.ext E2).other W3 (Or.inr (slot_ne (Or.inl (hw _ (List.mem_of_getElem? (i := 44) rfl))) (Or.inl (hw _ (List.mem_of_getElem? (i := 11) rfl))) (by decide) (t := .int) (t' := (.array .byte)) (by decide) (by decide))))
  have f8 : Arv Z h3 b2 ka2 .byte (64 : Int32) [(.int (0 : Int32)), (.int (0 : Int32)), (.int (0 : Int32)), (.int (0 : Int32)), (.int (0 : Int32)), (.int (0 : Int32)), (.int (0 : Int32)), (.int (0 : Int32)), (.int (0 : Int32)), (.int (0 : Int32)), (.int (0 : Int32)), (.int (0 : Int32)), (.int (0 : Int32)), (.int (0 : Int32)), (.int (0 : Int32)), (.int (0 : Int32)), (.int (0 : Int32)), (.int (0 : Int32)), (.int (0 : Int32)), (.int (0 : Int32)), (.int (0 : Int32)), (.int (0 : Int32)), (.int (0 : Int32)), (.int (0 : Int32)), (.int (0 : Int32)), (.int (0 : Int32)), (.int (0 : Int32)), (.int (0 : Int32)), (.int (0 : Int32)), (.int (0 : Int32)), (.int (0 : Int32)), (.int (0 : Int32)), (.int (0 : Int32)), (.int (0 : Int32)), (.int (0 : Int32)), (.int (0 : Int32)), (.int (0 : Int32)), (.int (0 : Int32)), (.int (0 : Int32)), (.int (0 : Int32)), (.int (0 : Int32)), (.int (0 : Int32)), (.int (0 : Int32)), (.int (0 : Int32)), (.int (0 : Int32)), (.int (0 : Int32)), (.int (0 : Int32)), (.int (0 : Int32)), (.int (0 : Int32)), (.int (0 : Int32)), (.int (0 : Int32)), (.int (0 : Int32)), (.int (0 : Int32)), (.int (0 : Int32)), (.int (0 : Int32)), (.int (0 : Int32)), (.int (0 : Int32)), (.int (0 : Int32)), (.int (0 : Int32)), (.int (0 : Int32)), (.int (0 : Int32)), (.int (0 : Int32)), (.int (0 : Int32)), (.int (0 : Int32))] (.int (0 : Int32)) := (Vn2.other W3 (Ne.symm ne_a_b2))
  refine g_new X3 hx hZ hown (hw _ (List.mem_of_getElem? (i := 12) rfl)) (hw _ (List.mem_of_getElem? (i := 13) rfl)) (hw _ (List.mem_of_getElem? (i := 14) rfl)) e3 (hb hby d_prog_15_m_1_13) rfl (by decide) (by decide) fun T6 h6 b6 X6 e6 q6 E6 A6 D6 => ?_
  have ne_a_b6 : a ≠ b6 := own_ne f7.lt q6
  have ne_b2_b6 : b2 ≠ b6 := own_ne f8.lt q6
  have g_b6 : n0 ≤ b6 := Nat.le_trans Z3 (Nat.le_of_eq q6.symm)
  have sz_b6 : h0.size ≤ b6 := Nat.le_trans kk3.1 (Nat.le_of_eq q6.symm)
  have Z6 : n0 ≤ h6.size := Nat.le_trans Z3 E6.1
  have kk6 : Keep h0 h6 [a] := kk3.ext E6
  have F6_elements : Fld Z h6 b6 "java/util/ArrayDeque" "elements" "[Ljava/lang/Object;" .null := D6 (Or.inl (hw _ (List.mem_of_getElem? (i := 28) rfl))) (ty := (.array (.object "java/lang/Object"))) (by decide)
  have F6_head : Fld Z h6 b6 "java/util/ArrayDeque" "head" "I" (.int (0 : Int32)) := D6 (Or.inl (hw _ (List.mem_of_getElem? (i := 65) rfl))) (ty := .int) (by decide)
  have F6_tail : Fld Z h6 b6 "java/util/ArrayDeque" "tail" "I" (.int (0 : Int32)) := D6 (Or.inl (hw _ (List.mem_of_getElem? (i := 67) rfl))) (ty := .int) (by decide)
  refine g_dup X6 hx (hb hby d_prog_15_m_1_16) rfl rfl ?_
  refine g_special X6 hx hZ hown rfl (hw _ (List.mem_of_getElem? (i := 15) rfl)) (hw _ (List.mem_of_getElem? (i := 16) rfl)) (hw _ (List.mem_of_getElem? (i := 14) rfl)) (hw _ (List.mem_of_getElem? (i := 17) rfl)) (by decide) (a := b6) (rm_dqini l Z a0 hw b6 h6 n0 Z6 F6_head F6_tail F6_elements A6 g_b6) (by rw [hml]; rfl) e6 [] rfl rfl (W := 2) (Nat.le_of_eq rfl) (by decide) (by decide) (by decide) (by decide) (lenOf pd_0 rfl) (hb hby d_prog_15_m_1_17) rfl fun v9 T9 L9 X9 hQ9 => ?_
  obtain ⟨rfl, Nq9, kc9, p9_0, p9_1, p9_2⟩ := hQ9
  have N9 := Fr.app N3 Nq9
  have kk9 : Keep h0 T9.heap [a] := kk6.trans kc9 (allS (Or.inr sz_b6) all0)
  have Z9 : n0 ≤ T9.heap.size := Nat.le_trans Z6 kc9.1
  show Ga _ _ _ _ _ _ _ _ _ _ _ [(.ref b6), (.ref a)]
  have f11 : Fld Z T9.heap a "com/example/glowworm/glowworm/NetlinkWriter" "openNests" "Ljava/util/Deque;" .null := ((((F_openNests_a.ext E2).other W3 (Or.inr (slot_ne (Or.inr (hw _ (List.mem_of_getElem? (i := 30) rfl))) (Or.inl (hw _ (List.mem_of_getElem? (i := 11) rfl))) (by decide) (t := (.object "java/util/Deque")) (t' := (.array .byte)) (by decide) (by decide)))).ext E6).keep kc9 (ninS ne_a_b6 nin0))
  have f12 : Exa Z T9.heap a "com/example/glowworm/glowworm/NetlinkWriter" := (((f5.wr W3).ext E6).keep kc9)
  refine g_putF X9 hx hZ hown (host := "") (Or.inl (hw _ (List.mem_of_getElem? (i := 29) rfl))) Via.refl rfl f11 f12 (Or.inr ⟨(hw _ (List.mem_of_getElem? (i := 30) rfl)), rfl, hnm⟩) (hw _ (List.mem_of_getElem? (i := 1) rfl)) (ty := (.object "java/util/Deque")) (by decide) rfl rfl (hb hby d_prog_15_m_1_20) rfl fun T10 h10 X10 e10 W10 F10 => ?_
  have kk10 : Keep h0 h10 [a] := kk9.wr W10 (Or.inl (by simp))
  have N10 := Fr.snoc X10 N9 g_a
  have Z10 : n0 ≤ h10.size := by rw [W10.size]; exact Z9
  refine g_aloadN X10 hx (hb hby d_prog_15_m_1_23) rfl rfl rfl ?_
  refine g_iconst X10 hx (r := (0 : Int32)) (hb hby d_prog_15_m_1_24) rfl rfl ?_
  have f14 : Fld Z h10 a "com/example/glowworm/glowworm/NetlinkWriter" "length" "I" (.int (0 : Int32)) := (((f7.ext E6).keep kc9 (ninS ne_a_b6 nin0)).other W10 (Or.inr (slot_ne (Or.inl (hw _ (List.mem_of_getElem? (i := 44) rfl))) (Or.inr (hw _ (List.mem_of_getElem? (i := 30) rfl))) (by decide) (t := .int) (t' := (.object "java/util/Deque")) (by decide) (by decide))))
  have f15 : Fld Z h10 a "com/example/glowworm/glowworm/NetlinkWriter" "bytes" "[B" (.ref b2) := (((F3.ext E6).keep kc9 (ninS ne_a_b6 nin0)).other W10 (Or.inr (slot_ne (Or.inl (hw _ (List.mem_of_getElem? (i := 11) rfl))) (Or.inr (hw _ (List.mem_of_getElem? (i := 30) rfl))) (by decide) (t := (.array .byte)) (t' := (.object "java/util/Deque")) (by decide) (by decide))))
  have f16 : Arv Z h10 b2 ka2 .byte (64 : Int32) [(.int (0 : Int32)), (.int (0 : Int32)), (.int (0 : Int32)), (.int (0 : Int32)), (.int (0 : Int32)), (.int (0 : Int32)), (.int (0 : Int32)), (.int (0 : Int32)), (.int (0 : Int32)), (.int (0 : Int32)), (.int (0 : Int32)), (.int (0 : Int32)), (.int (0 : Int32)), (.int (0 : Int32)), (.int (0 : Int32)), (.int (0 : Int32)), (.int (0 : Int32)), (.int (0 : Int32)), (.int (0 : Int32)), (.int (0 : Int32)), (.int (0 : Int32)), (.int (0 : Int32)), (.int (0 : Int32)), (.int (0 : Int32)), (.int (0 : Int32)), (.int (0 : Int32)), (.int (0 : Int32)), (.int (0 : Int32)), (.int (0 : Int32)), (.int (0 : Int32)), (.int (0 : Int32)), (.int (0 : Int32)), (.int (0 : Int32)), (.int (0 : Int32)), (.int (0 : Int32)), (.int (0 : Int32)), (.int (0 : Int32)), (.int (0 : Int32)), (.int (0 : Int32)), (.int (0 : Int32)), (.int (0 : Int32)), (.int (0 : Int32)), (.int (0 : Int32)), (.int (0 : Int32)), (.int (0 : Int32)), (.int (0 : Int32)), (.int (0 : Int32)), (.int (0 : Int32)), (.int (0 : Int32)), (.int (0 : Int32)), (.int (0 : Int32)), (.int (0 : Int32)), (.int (0 : Int32)), (.int (0 : Int32)), (.int (0 : Int32)), (.int (0 : Int32)), (.int (0 : Int32)), (.int (0 : Int32)), (.int (0 : Int32)), (.int (0 : Int32)), (.int (0 : Int32)), (.int (0 : Int32)), (.int (0 : Int32)), (.int (0 : Int32))] (.int (0 : Int32)) := (((f8.ext E6).keep kc9 (ninS ne_b2_b6 nin0)).other W10 (Ne.symm ne_a_b2))
  have f17 : Exa Z h10 a "com/example/glowworm/glowworm/NetlinkWriter" := (f12.wr W10)
  refine g_private X10 hx hZ hown (hw _ (List.mem_of_getElem? (i := 31) rfl)) (hw _ (List.mem_of_getElem? (i := 32) rfl)) (hw _ (List.mem_of_getElem? (i := 1) rfl)) (hw _ (List.mem_of_getElem? (i := 33) rfl)) (hw _ (List.mem_of_getElem? (i := 2) rfl)) (hw _ (List.mem_of_getElem? (i := 34) rfl)) (by decide) (a := a) f17 (rm_pu32 l Z a0 hw a b2 b6 ka2 (0 : Int32) [(.int (0 : Int32)), (.int (0 : Int32)), (.int (0 : Int32)), (.int (0 : Int32)), (.int (0 : Int32)), (.int (0 : Int32)), (.int (0 : Int32)), (.int (0 : Int32)), (.int (0 : Int32)), (.int (0 : Int32)), (.int (0 : Int32)), (.int (0 : Int32)), (.int (0 : Int32)), (.int (0 : Int32)), (.int (0 : Int32)), (.int (0 : Int32)), (.int (0 : Int32)), (.int (0 : Int32)), (.int (0 : Int32)), (.int (0 : Int32)), (.int (0 : Int32)), (.int (0 : Int32)), (.int (0 : Int32)), (.int (0 : Int32)), (.int (0 : Int32)), (.int (0 : Int32)), (.int (0 : Int32)), (.int (0 : Int32)), (.int (0 : Int32)), (.int (0 : Int32)), (.int (0 : Int32)), (.int (0 : Int32)), (.int (0 : Int32)), (.int (0 : Int32)), (.int (0 : Int32)), (.int (0 : Int32)), (.int (0 : Int32)), (.int (0 : Int32)), (.int (0 : Int32)), (.int (0 : Int32)), (.int (0 : Int32)), (.int (0 : Int32)), (.int (0 : Int32)), (.int (0 : Int32)), (.int (0 : Int32)), (.int (0 : Int32)), (.int (0 : Int32)), (.int (0 : Int32)), (.int (0 : Int32)), (.int (0 : Int32)), (.int (0 : Int32)), (.int (0 : Int32)), (.int (0 : Int32)), (.int (0 : Int32)), (.int (0 : Int32)), (.int (0 : Int32)), (.int (0 : Int32)), (.int (0 : Int32)), (.int (0 : Int32)), (.int (0 : Int32)), (.int (0 : Int32)), (.int (0 : Int32)), (.int (0 : Int32)), (.int (0 : Int32))] (0 : Int32) h10 n0 Z10 f14 f15 F10 f16 f17 g_a g_b2 ne_a_b2 (by decide) (by decide) rfl) (by rw [hml]; rfl) e10 [(.int (0 : Int32))] rfl rfl (W := 0) (Nat.le_of_eq rfl) (by decide) (by decide) (by decide) (by decide) (lenOf pd_2 rfl) (hb hby d_prog_15_m_1_25) rfl fun v13 T13 L13 X13 hQ13 => ?_
  obtain ⟨rfl, Nq13, kc13, p13_0, p13_1, p13_2, p13_3, p13_4⟩ := hQ13
  have N13 := Fr.app N10 Nq13
  have kk13 : Keep h0 T13.heap [a] := kk10.trans kc13 (allS (Or.inl (by simp)) (allS (Or.inr sz_b2) all0))
  have Z13 : n0 ≤ T13.heap.size := Nat.le_trans Z10 kc13.1
  have pv13_1 : Fld Z T13.heap a "com/example/glowworm/glowworm/NetlinkWriter" "length" "I" (.int (4 : Int32)) := p13_1
  have pv13_4 : Arv Z T13.heap b2 ka2 .byte (64 : Int32) [(.int (0 : Int32)), (.int (0 : Int32)), (.int (0 : Int32)), (.int (0 : Int32)), (.int (0 : Int32)), (.int (0 : Int32)), (.int (0 : Int32)), (.int (0 : Int32)), (.int (0 : Int32)), (.int (0 : Int32)), (.int (0 : Int32)), (.int (0 : Int32)), (.int (0 : Int32)), (.int (0 : Int32)), (.int (0 : Int32)), (.int (0 : Int32)), (.int (0 : Int32)), (.int (0 : Int32)), (.int (0 : Int32)), (.int (0 : Int32)), (.int (0 : Int32)), (.int (0 : Int32)), (.int (0 : Int32)), (.int (0 : Int32)), (.int (0 : Int32)), (.int (0 : Int32)), (.int (0 : Int32)), (.int (0 : Int32)), (.int (0 : Int32)), (.int (0 : Int32)), (.int (0 : Int32)), (.int (0 : Int32)), (.int (0 : Int32)), (.int (0 : Int32)), (.int (0 : Int32)), (.int (0 : Int32)), (.int (0 : Int32)), (.int (0 : Int32)), (.int (0 : Int32)), (.int (0 : Int32)), (.int (0 : Int32)), (.int (0 : Int32)), (.int (0 : Int32)), (.int (0 : Int32)), (.int (0 : Int32)), (.int (0 : Int32)), (.int (0 : Int32)), (.int (0 : Int32)), (.int (0 : Int32)), (.int (0 : Int32)), (.int (0 : Int32)), (.int (0 : Int32)), (.int (0 : Int32)), (.int (0 : Int32)), (.int (0 : Int32)), (.int (0 : Int32)), (.int (0 : Int32)), (.int (0 : Int32)), (.int (0 : Int32)), (.int (0 : Int32)), (.int (0 : Int32)), (.int (0 : Int32)), (.int (0 : Int32)), (.int (0 : Int32))] (.int (0 : Int32)) := p13_4
  show Ga _ _ _ _ _ _ _ _ _ _ _ []
  refine g_aloadN X13 hx (hb hby d_prog_15_m_1_28) rfl rfl rfl ?_
  refine g_iloadN X13 hx (hb hby d_prog_15_m_1_29) rfl rfl ?_
  refine g_private X13 hx hZ hown (hw _ (List.mem_of_getElem? (i := 35) rfl)) (hw _ (List.mem_of_getElem? (i := 36) rfl)) (hw _ (List.mem_of_getElem? (i := 1) rfl)) (hw _ (List.mem_of_getElem? (i := 37) rfl)) (hw _ (List.mem_of_getElem? (i := 2) rfl)) (hw _ (List.mem_of_getElem? (i := 38) rfl)) (by decide) (a := a) p13_0 (rm_pu16 l Z a0 hw a b2 b6 ka2 (4 : Int32) [(.int (0 : Int32)), (.int (0 : Int32)), (.int (0 : Int32)), (.int (0 : Int32)), (.int (0 : Int32)), (.int (0 : Int32)), (.int (0 : Int32)), (.int (0 : Int32)), (.int (0 : Int32)), (.int (0 : Int32)), (.int (0 : Int32)), (.int (0 : Int32)), (.int (0 : Int32)), (.int (0 : Int32)), (.int (0 : Int32)), (.int (0 : Int32)), (.int (0 : Int32)), (.int (0 : Int32)), (.int (0 : Int32)), (.int (0 : Int32)), (.int (0 : Int32)), (.int (0 : Int32)), (.int (0 : Int32)), (.int (0 : Int32)), (.int (0 : Int32)), (.int (0 : Int32)), (.int (0 : Int32)), (.int (0 : Int32)), (.int (0 : Int32)), (.int (0 : Int32)), (.int (0 : Int32)), (.int (0 : Int32)), (.int (0 : Int32)), (.int (0 : Int32)), (.int (0 : Int32)), (.int (0 : Int32)), (.int (0 : Int32)), (.int (0 : Int32)), (.int (0 : Int32)), (.int (0 : Int32)), (.int (0 : Int32)), (.int (0 : Int32)), (.int (0 : Int32)), (.int (0 : Int32)), (.int (0 : Int32)), (.int (0 : Int32)), (.int (0 : Int32)), (.int (0 : Int32)), (.int (0 : Int32)), (.int (0 : Int32)), (.int (0 : Int32)), (.int (0 : Int32)), (.int (0 : Int32)), (.int (0 : Int32)), (.int (0 : Int32)), (.int (0 : Int32)), (.int (0 : Int32)), (.int (0 : Int32)), (.int (0 : Int32)), (.int (0 : Int32)), (.int (0 : Int32)), (.int (0 : Int32)), (.int (0 : Int32)), (.int (0 : Int32))] y1 T13.heap n0 Z13 pv13_1 p13_2 p13_3 pv13_4 p13_0 g_a g_b2 ne_a_b2 (by decide) (by decide) rfl) (by rw [hml]; rfl) rfl [(.int y1)] rfl rfl (W := 0) (Nat.le_of_eq rfl) (by decide) (by decide) (by decide) (by decide) (lenOf pd_2 rfl) (hb hby d_prog_15_m_1_30) rfl fun v18 T18 L18 X18 hQ18 => ?_
  obtain ⟨rfl, Nq18, kc18, p18_0, p18_1, p18_2, p18_3, p18_4⟩ := hQ18
  have N18 := Fr.app N13 Nq18
  have kk18 : Keep h0 T18.heap [a] := kk13.trans kc18 (allS (Or.inl (by simp)) (allS (Or.inr sz_b2) all0))
  have Z18 : n0 ≤ T18.heap.size := Nat.le_trans Z13 kc18.1
  have pv18_1 : Fld Z T18.heap a "com/example/glowworm/glowworm/NetlinkWriter" "length" "I" (.int (6 : Int32)) := p18_1
  have pv18_4 : Arv Z T18.heap b2 ka2 .byte (64 : Int32) [(.int (0 : Int32)), (.int (0 : Int32)), (.int (0 : Int32)), (.int (0 : Int32)), (.int (y1.toInt8.toInt32)), (.int (((y1.toUInt32 >>> ((8 : Int32) &&& 31).toUInt32).toInt32).toInt8.toInt32)), (.int (0 : Int32)), (.int (0 : Int32)), (.int (0 : Int32)), (.int (0 : Int32)), (.int (0 : Int32)), (.int (0 : Int32)), (.int (0 : Int32)), (.int (0 : Int32)), (.int (0 : Int32)), (.int (0 : Int32)), (.int (0 : Int32)), (.int (0 : Int32)), (.int (0 : Int32)), (.int (0 : Int32)), (.int (0 : Int32)), (.int (0 : Int32)), (.int (0 : Int32)), (.int (0 : Int32)), (.int (0 : Int32)), (.int (0 : Int32)), (.int (0 : Int32)), (.int (0 : Int32)), (.int (0 : Int32)), (.int (0 : Int32)), (.int (0 : Int32)), (.int (0 : Int32)), (.int (0 : Int32)), (.int (0 : Int32)), (.int (0 : Int32)), (.int (0 : Int32)), (.int (0 : Int32)), (.int (0 : Int32)), (.int (0 : Int32)), (.int (0 : Int32)), (.int (0 : Int32)), (.int (0 : Int32)), (.int (0 : Int32)), (.int (0 : Int32)), (.int (0 : Int32)), (.int (0 : Int32)), (.int (0 : Int32)), (.int (0 : Int32)), (.int (0 : Int32)), (.int (0 : Int32)), (.int (0 : Int32)), (.int (0 : Int32)), (.int (0 : Int32)), (.int (0 : Int32)), (.int (0 : Int32)), (.int (0 : Int32)), (.int (0 : Int32)), (.int (0 : Int32)), (.int (0 : Int32)), (.int (0 : Int32)), (.int (0 : Int32)), (.int (0 : Int32)), (.int (0 : Int32)), (.int (0 : Int32))] (.int (0 : Int32)) := p18_4
  show Ga _ _ _ _ _ _ _ _ _ _ _ []
  refine g_aloadN X18 hx (hb hby d_prog_15_m_1_33) rfl rfl rfl ?_
  refine g_iloadN X18 hx (hb hby d_prog_15_m_1_34) rfl rfl ?_
  refine g_private X18 hx hZ hown (hw _ (List.mem_of_getElem? (i := 35) rfl)) (hw _ (List.mem_of_getElem? (i := 36) rfl)) (hw _ (List.mem_of_getElem? (i := 1) rfl)) (hw _ (List.mem_of_getElem? (i := 37) rfl)) (hw _ (List.mem_of_getElem? (i := 2) rfl)) (hw _ (List.mem_of_getElem? (i := 38) rfl)) (by decide) (a := a) p18_0 (rm_pu16 l Z a0 hw a b2 b6 ka2 (6 : Int32) [(.int (0 : Int32)), (.int (0 : Int32)), (.int (0 : Int32)), (.int (0 : Int32)), (.int (y1.toInt8.toInt32)), (.int (((y1.toUInt32 >>> ((8 : Int32) &&& 31).toUInt32).toInt32).toInt8.toInt32)), (.int (0 : Int32)), (.int (0 : Int32)), (.int (0 : Int32)), (.int (0 : Int32)), (.int (0 : Int32)), (.int (0 : Int32)), (.int (0 : Int32)), (.int (0 : Int32)), (.int (0 : Int32)), (.int (0 : Int32)), (.int (0 : Int32)), (.int (0 : Int32)), (.int (0 : Int32)), (.int (0 : Int32)), (.int (0 : Int32)), (.int (0 : Int32)), (.int (0 : Int32)), (.int (0 : Int32)), (.int (0 : Int32)), (.int (0 : Int32)), (.int (0 : Int32)), (.int (0 : Int32)), (.int (0 : Int32)), (.int (0 : Int32)), (.int (0 : Int32)), (.int (0 : Int32)), (.int (0 : Int32)), (.int (0 : Int32)), (.int (0 : Int32)), (.int (0 : Int32)), (.int (0 : Int32)), (.int (0 : Int32)), (.int (0 : Int32)), (.int (0 : Int32)), (.int (0 : Int32)), (.int (0 : Int32)), (.int (0 : Int32)), (.int (0 : Int32)), (.int (0 : Int32)), (.int (0 : Int32)), (.int (0 : Int32)), (.int (0 : Int32)), (.int (0 : Int32)), (.int (0 : Int32)), (.int (0 : Int32)), (.int (0 : Int32)), (.int (0 : Int32)), (.int (0 : Int32)), (.int (0 : Int32)), (.int (0 : Int32)), (.int (0 : Int32)), (.int (0 : Int32)), (.int (0 : Int32)), (.int (0 : Int32)), (.int (0 : Int32)), (.int (0 : Int32)), (.int (0 : Int32)), (.int (0 : Int32))] y2 T18.heap n0 Z18 pv18_1 p18_2 p18_3 pv18_4 p18_0 g_a g_b2 ne_a_b2 (by decide) (by decide) rfl) (by rw [hml]; rfl) rfl [(.int y2)] rfl rfl (W := 0) (Nat.le_of_eq rfl) (by decide) (by decide) (by decide) (by decide) (lenOf pd_2 rfl) (hb hby d_prog_15_m_1_35) rfl fun v19 T19 L19 X19 hQ19 => ?_
  obtain ⟨rfl, Nq19, kc19, p19_0, p19_1, p19_2, p19_3, p19_4⟩ := hQ19
  have N19 := Fr.app N18 Nq19
  have kk19 : Keep h0 T19.heap [a] := kk18.trans kc19 (allS (Or.inl (by simp)) (allS (Or.inr sz_b2) all0))
  have Z19 : n0 ≤ T19.heap.size := Nat.le_trans Z18 kc19.1
  have pv19_1 : Fld Z T19.heap a "com/example/glowworm/glowworm/NetlinkWriter" "length" "I" (.int (8 : Int32)) := p19_1
  have pv19_4 : Arv Z T19.heap b2 ka2 .byte (64 : Int32) [(.int (0 : Int32)), (.int (0 : Int32)), (.int (0 : Int32)), (.int (0 : Int32)), (.int (y1.toInt8.toInt32)), (.int (((y1.toUInt32 >>> ((8 : Int32) &&& 31).toUInt32).toInt32).toInt8.toInt32)), (.int (y2.toInt8.toInt32)), (.int (((y2.toUInt32 >>> ((8 : Int32) &&& 31).toUInt32).toInt32).toInt8.toInt32)), (.int (0 : Int32)), (.int (0 : Int32)), (.int (0 : Int32)), (.int (0 : Int32)), (.int (0 : Int32)), (.int (0 : Int32)), (.int (0 : Int32)), (.int (0 : Int32)), (.int (0 : Int32)), (.int (0 : Int32)), (.int (0 : Int32)), (.int (0 : Int32)), (.int (0 : Int32)), (.int (0 : Int32)), (.int (0 : Int32)), (.int (0 : Int32)), (.int (0 : Int32)), (.int (0 : Int32)), (.int (0 : Int32)), (.int (0 : Int32)), (.int (0 : Int32)), (.int (0 : Int32)), (.int (0 : Int32)), (.int (0 : Int32)), (.int (0 : Int32)), (.int (0 : Int32)), (.int (0 : Int32)), (.int (0 : Int32)), (.int (0 : Int32)), (.int (0 : Int32)), (.int (0 : Int32)), (.int (0 : Int32)), (.int (0 : Int32)), (.int (0 : Int32)), (.int (0 : Int32)), (.int (0 : Int32)), (.int (0 : Int32)), (.int (0 : Int32)), (.int (0 : Int32)), (.int (0 : Int32)), (.int (0 : Int32)), (.int (0 : Int32)), (.int (0 : Int32)), (.int (0 : Int32)), (.int (0 : Int32)), (.int (0 : Int32)), (.int (0 : Int32)), (.int (0 : Int32)), (.int (0 : Int32)), (.int (0 : Int32)), (.int (0 : Int32)), (.int (0 : Int32)), (.int (0 : Int32)), (.int (0 : Int32)), (.int (0 : Int32)), (.int (0 : Int32))] (.int (0 : Int32)) := p19_4
  show Ga _ _ _ _ _ _ _ _ _ _ _ []
  refine g_aloadN X19 hx (hb hby d_prog_15_m_1_38) rfl rfl rfl ?_
  refine g_iloadN X19 hx (hb hby d_prog_15_m_1_39) rfl rfl ?_
  refine g_private X19 hx hZ hown (hw _ (List.mem_of_getElem? (i := 31) rfl)) (hw _ (List.mem_of_getElem? (i := 32) rfl)) (hw _ (List.mem_of_getElem? (i := 1) rfl)) (hw _ (List.mem_of_getElem? (i := 33) rfl)) (hw _ (List.mem_of_getElem? (i := 2) rfl)) (hw _ (List.mem_of_getElem? (i := 34) rfl)) (by decide) (a := a) p19_0 (rm_pu32 l Z a0 hw a b2 b6 ka2 (8 : Int32) [(.int (0 : Int32)), (.int (0 : Int32)), (.int (0 : Int32)), (.int (0 : Int32)), (.int (y1.toInt8.toInt32)), (.int (((y1.toUInt32 >>> ((8 : Int32) &&& 31).toUInt32).toInt32).toInt8.toInt32)), (.int (y2.toInt8.toInt32)), (.int (((y2.toUInt32 >>> ((8 : Int32) &&& 31).toUInt32).toInt32).toInt8.toInt32)), (.int (0 : Int32)), (.int (0 : Int32)), (.int (0 : Int32)), (.int (0 : Int32)), (.int (0 : Int32)), (.int (0 : Int32)), (.int (0 : Int32)), (.int (0 : Int32)), (.int (0 : Int32)), (.int (0 : Int32)), (.int (0 : Int32)), (.int (0 : Int32)), (.int (0 : Int32)), (.int (0 : Int32)), (.int (0 : Int32)), (.int (0 : Int32)), (.int (0 : Int32)), (.int (0 : Int32)), (.int (0 : Int32)), (.int (0 : Int32)), (.int (0 : Int32)), (.int (0 : Int32)), (.int (0 : Int32)), (.int (0 : Int32)), (.int (0 : Int32)), (.int (0 : Int32)), (.int (0 : Int32)), (.int (0 : Int32)), (.int (0 : Int32)), (.int (0 : Int32)), (.int (0 : Int32)), (.int (0 : Int32)), (.int (0 : Int32)), (.int (0 : Int32)), (.int (0 : Int32)), (.int (0 : Int32)), (.int (0 : Int32)), (.int (0 : Int32)), (.int (0 : Int32)), (.int (0 : Int32)), (.int (0 : Int32)), (.int (0 : Int32)), (.int (0 : Int32)), (.int (0 : Int32)), (.int (0 : Int32)), (.int (0 : Int32)), (.int (0 : Int32)), (.int (0 : Int32)), (.int (0 : Int32)), (.int (0 : Int32)), (.int (0 : Int32)), (.int (0 : Int32)), (.int (0 : Int32)), (.int (0 : Int32)), (.int (0 : Int32)), (.int (0 : Int32))] y3 T19.heap n0 Z19 pv19_1 p19_2 p19_3 pv19_4 p19_0 g_a g_b2 ne_a_b2 (by decide) (by decide) rfl) (by rw [hml]; rfl) rfl [(.int y3)] rfl rfl (W := 0) (Nat.le_of_eq rfl) (by decide) (by decide) (by decide) (by decide) (lenOf pd_2 rfl) (hb hby d_prog_15_m_1_40) rfl fun v20 T20 L20 X20 hQ20 => ?_
  obtain ⟨rfl, Nq20, kc20, p20_0, p20_1, p20_2, p20_3, p20_4⟩ := hQ20
  have N20 := Fr.app N19 Nq20
  have kk20 : Keep h0 T20.heap [a] := kk19.trans kc20 (allS (Or.inl (by simp)) (allS (Or.inr sz_b2) all0))
  have Z20 : n0 ≤ T20.heap.size := Nat.le_trans Z19 kc20.1
  have pv20_1 : Fld Z T20.heap a "com/example/glowworm/glowworm/NetlinkWriter" "length" "I" (.int (12 : Int32)) := p20_1
  have pv20_4 : Arv Z T20.heap b2 ka2 .byte (64 : Int32) [(.int (0 : Int32)), (.int (0 : Int32)), (.int (0 : Int32)), (.int (0 : Int32)), (.int (y1.toInt8.toInt32)), (.int (((y1.toUInt32 >>> ((8 : Int32) &&& 31).toUInt32).toInt32).toInt8.toInt32)), (.int (y2.toInt8.toInt32)), (.int (((y2.toUInt32 >>> ((8 : Int32) &&& 31).toUInt32).toInt32).toInt8.toInt32)), (.int (y3.toInt8.toInt32)), (.int (((y3.toUInt32 >>> ((8 : Int32) &&& 31).toUInt32).toInt32).toInt8.toInt32)), (.int (((y3.toUInt32 >>> ((16 : Int32) &&& 31).toUInt32).toInt32).toInt8.toInt32)), (.int (((((y3.toUInt32 >>> ((16 : Int32) &&& 31).toUInt32).toInt32).toUInt32 >>> ((8 : Int32) &&& 31).toUInt32).toInt32).toInt8.toInt32)), (.int (0 : Int32)), (.int (0 : Int32)), (.int (0 : Int32)), (.int (0 : Int32)), (.int (0 : Int32)), (.int (0 : Int32)), (.int (0 : Int32)), (.int (0 : Int32)), (.int (0 : Int32)), (.int (0 : Int32)), (.int (0 : Int32)), (.int (0 : Int32)), (.int (0 : Int32)), (.int (0 : Int32)), (.int (0 : Int32)), (.int (0 : Int32)), (.int (0 : Int32)), (.int (0 : Int32)), (.int (0 : Int32)), (.int (0 : Int32)), (.int (0 : Int32)), (.int (0 : Int32)), (.int (0 : Int32)), (.int (0 : Int32)), (.int (0 : Int32)), (.int (0 : Int32)), (.int (0 : Int32)), (.int (0 : Int32)), (.int (0 : Int32)), (.int (0 : Int32)), (.int (0 : Int32)), (.int (0 : Int32)), (.int (0 : Int32)), (.int (0 : Int32)), (.int (0 : Int32)), (.int (0 : Int32)), (.int (0 : Int32)), (.int (0 : Int32)), (.int (0 : Int32)), (.int (0 : Int32)), (.int (0 : Int32)), (.int (0 : Int32)), (.int (0 : Int32)), (.int (0 : Int32)), (.int (0 : Int32)), (.int (0 : Int32)), (.int (0 : Int32)), (.int (0 : Int32)), (.int (0 : Int32)), (.int (0 : Int32)), (.int (0 : Int32)), (.int (0 : Int32))] (.int (0 : Int32)) := p20_4
  show Ga _ _ _ _ _ _ _ _ _ _ _ []
  refine g_aloadN X20 hx (hb hby d_prog_15_m_1_43) rfl rfl rfl ?_
  refine g_iload X20 hx (hb hby d_prog_15_m_1_44) rfl rfl ?_
  refine g_private X20 hx hZ hown (hw _ (List.mem_of_getElem? (i := 31) rfl)) (hw _ (List.mem_of_getElem? (i := 32) rfl)) (hw _ (List.mem_of_getElem? (i := 1) rfl)) (hw _ (List.mem_of_getElem? (i := 33) rfl)) (hw _ (List.mem_of_getElem? (i := 2) rfl)) (hw _ (List.mem_of_getElem? (i := 34) rfl)) (by decide) (a := a) p20_0 (rm_pu32 l Z a0 hw a b2 b6 ka2 (12 : Int32) [(.int (0 : Int32)), (.int (0 : Int32)), (.int (0 : Int32)), (.int (0 : Int32)), (.int (y1.toInt8.toInt32)), (.int (((y1.toUInt32 >>> ((8 : Int32) &&& 31).toUInt32).toInt32).toInt8.toInt32)), (.int (y2.toInt8.toInt32)), (.int (((y2.toUInt32 >>> ((8 : Int32) &&& 31).toUInt32).toInt32).toInt8.toInt32)), (.int (y3.toInt8.toInt32)), (.int (((y3.toUInt32 >>> ((8 : Int32) &&& 31).toUInt32).toInt32).toInt8.toInt32)), (.int (((y3.toUInt32 >>> ((16 : Int32) &&& 31).toUInt32).toInt32).toInt8.toInt32)), (.int (((((y3.toUInt32 >>> ((16 : Int32) &&& 31).toUInt32).toInt32).toUInt32 >>> ((8 : Int32) &&& 31).toUInt32).toInt32).toInt8.toInt32)), (.int (0 : Int32)), (.int (0 : Int32)), (.int (0 : Int32)), (.int (0 : Int32)), (.int (0 : Int32)), (.int (0 : Int32)), (.int (0 : Int32)), (.int (0 : Int32)), (.int (0 : Int32)), (.int (0 : Int32)), (.int (0 : Int32)), (.int (0 : Int32)), (.int (0 : Int32)), (.int (0 : Int32)), (.int (0 : Int32)), (.int (0 : Int32)), (.int (0 : Int32)), (.int (0 : Int32)), (.int (0 : Int32)), (.int (0 : Int32)), (.int (0 : Int32)), (.int (0 : Int32)), (.int (0 : Int32)), (.int (0 : Int32)), (.int (0 : Int32)), (.int (0 : Int32)), (.int (0 : Int32)), (.int (0 : Int32)), (.int (0 : Int32)), (.int (0 : Int32)), (.int (0 : Int32)), (.int (0 : Int32)), (.int (0 : Int32)), (.int (0 : Int32)), (.int (0 : Int32)), (.int (0 : Int32)), (.int (0 : Int32)), (.int (0 : Int32)), (.int (0 : Int32)), (.int (0 : Int32)), (.int (0 : Int32)), (.int (0 : Int32)), (.int (0 : Int32)), (.int (0 : Int32)), (.int (0 : Int32)), (.int (0 : Int32)), (.int (0 : Int32)), (.int (0 : Int32)), (.int (0 : Int32)), (.int (0 : Int32)), (.int (0 : Int32)), (.int (0 : Int32))] y4 T20.heap n0 Z20 pv20_1 p20_2 p20_3 pv20_4 p20_0 g_a g_b2 ne_a_b2 (by decide) (by decide) rfl) (by rw [hml]; rfl) rfl [(.int y4)] rfl rfl (W := 0) (Nat.le_of_eq rfl) (by decide) (by decide) (by decide) (by decide) (lenOf pd_2 rfl) (hb hby d_prog_15_m_1_46) rfl fun v21 T21 L21 X21 hQ21 => ?_
  obtain ⟨rfl, Nq21, kc21, p21_0, p21_1, p21_2, p21_3, p21_4⟩ := hQ21
  have N21 := Fr.app N20 Nq21
  have kk21 : Keep h0 T21.heap [a] := kk20.trans kc21 (allS (Or.inl (by simp)) (allS (Or.inr sz_b2) all0))
  have Z21 : n0 ≤ T21.heap.size := Nat.le_trans Z20 kc21.1
  have pv21_1 : Fld Z T21.heap a "com/example/glowworm/glowworm/NetlinkWriter" "length" "I" (.int (16 : Int32)) := p21_1
  have pv21_4 : Arv Z T21.heap b2 ka2 .byte (64 : Int32) [(.int (0 : Int32)), (.int (0 : Int32)), (.int (0 : Int32)), (.int (0 : Int32)), (.int (y1.toInt8.toInt32)), (.int (((y1.toUInt32 >>> ((8 : Int32) &&& 31).toUInt32).toInt32).toInt8.toInt32)), (.int (y2.toInt8.toInt32)), (.int (((y2.toUInt32 >>> ((8 : Int32) &&& 31).toUInt32).toInt32).toInt8.toInt32)), (.int (y3.toInt8.toInt32)), (.int (((y3.toUInt32 >>> ((8 : Int32) &&& 31).toUInt32).toInt32).toInt8.toInt32)), (.int (((y3.toUInt32 >>> ((16 : Int32) &&& 31).toUInt32).toInt32).toInt8.toInt32)), (.int (((((y3.toUInt32 >>> ((16 : Int32) &&& 31).toUInt32).toInt32).toUInt32 >>> ((8 : Int32) &&& 31).toUInt32).toInt32).toInt8.toInt32)), (.int (y4.toInt8.toInt32)), (.int (((y4.toUInt32 >>> ((8 : Int32) &&& 31).toUInt32).toInt32).toInt8.toInt32)), (.int (((y4.toUInt32 >>> ((16 : Int32) &&& 31).toUInt32).toInt32).toInt8.toInt32)), (.int (((((y4.toUInt32 >>> ((16 : Int32) &&& 31).toUInt32).toInt32).toUInt32 >>> ((8 : Int32) &&& 31).toUInt32).toInt32).toInt8.toInt32)), (.int (0 : Int32)), (.int (0 : Int32)), (.int (0 : Int32)), (.int (0 : Int32)), (.int (0 : Int32)), (.int (0 : Int32)), (.int (0 : Int32)), (.int (0 : Int32)), (.int (0 : Int32)), (.int (0 : Int32)), (.int (0 : Int32)), (.int (0 : Int32)), (.int (0 : Int32)), (.int (0 : Int32)), (.int (0 : Int32)), (.int (0 : Int32)), (.int (0 : Int32)), (.int (0 : Int32)), (.int (0 : Int32)), (.int (0 : Int32)), (.int (0 : Int32)), (.int (0 : Int32)), (.int (0 : Int32)), (.int (0 : Int32)), (.int (0 : Int32)), (.int (0 : Int32)), (.int (0 : Int32)), (.int (0 : Int32)), (.int (0 : Int32)), (.int (0 : Int32)), (.int (0 : Int32)), (.int (0 : Int32)), (.int (0 : Int32)), (.int (0 : Int32)), (.int (0 : Int32)), (.int (0 : Int32)), (.int (0 : Int32)), (.int (0 : Int32)), (.int (0 : Int32)), (.int (0 : Int32)), (.int (0 : Int32)), (.int (0 : Int32)), (.int (0 : Int32)), (.int (0 : Int32)), (.int (0 : Int32)), (.int (0 : Int32)), (.int (0 : Int32)), (.int (0 : Int32))] (.int (0 : Int32)) := p21_4
  show Ga _ _ _ _ _ _ _ _ _ _ _ []
  have f22 : Exa Z T21.heap b6 "java/util/ArrayDeque" := ((((((p9_0.wr W10).keep kc13).keep kc18).keep kc19).keep kc20).keep kc21)
  have f23 : Fld Z T21.heap b6 "java/util/ArrayDeque" "head" "I" (.int (0 : Int32)) := ((((((p9_1.other W10 (Or.inl (Ne.symm ne_a_b6))).keep kc13 (ninS (Ne.symm ne_a_b6) (ninS (Ne.symm ne_b2_b6) nin0))).keep kc18 (ninS (Ne.symm ne_a_b6) (ninS (Ne.symm ne_b2_b6) nin0))).keep kc19 (ninS (Ne.symm ne_a_b6) (ninS (Ne.symm ne_b2_b6) nin0))).keep kc20 (ninS (Ne.symm ne_a_b6) (ninS (Ne.symm ne_b2_b6) nin0))).keep kc21 (ninS (Ne.symm ne_a_b6) (ninS (Ne.symm ne_b2_b6) nin0)))
  have f24 : Fld Z T21.heap b6 "java/util/ArrayDeque" "tail" "I" (.int (0 : Int32)) := ((((((p9_2.other W10 (Or.inl (Ne.symm ne_a_b6))).keep kc13 (ninS (Ne.symm ne_a_b6) (ninS (Ne.symm ne_b2_b6) nin0))).keep kc18 (ninS (Ne.symm ne_a_b6) (ninS (Ne.symm ne_b2_b6) nin0))).keep kc19 (ninS (Ne.symm ne_a_b6) (ninS (Ne.symm ne_b2_b6) nin0))).keep kc20 (ninS (Ne.symm ne_a_b6) (ninS (Ne.symm ne_b2_b6) nin0))).keep kc21 (ninS (Ne.symm ne_a_b6) (ninS (Ne.symm ne_b2_b6) nin0)))
  exact g_ret X21 hx hret hlk (hb hby d_prog_15_m_1_49) (by decide) (by decide) ⟨b2, ka2, b6, rfl, N21, kk21, sz_b2, sz_b6, ne_b2_b6, p21_0, f22, f23, f24, pv21_1, p21_2, p21_3, pv21_4⟩
def Q_genl (Z : State) (a : Addr) (b : Addr) (dq : Addr) (ka : ClassId) (n : Int32) (vs : List Value) (x : Int32) (y : Int32) (h0 : Heap) (n0 : Nat) (v : Option Value) (h : Heap) (L : List Loc) : Prop := v = some (.ref a) ∧ Fr n0 L ∧ Keep h0 h [a, b] ∧ Exa Z h a "com/example/glowworm/glowworm/NetlinkWriter" ∧ Fld Z h a "com/example/glowworm/glowworm/NetlinkWriter" "length" "I" (.int ((((n + (1 : Int32)) + (1 : Int32)) + (1 : Int32)) + (1 : Int32))) ∧ Fld Z h a "com/example/glowworm/glowworm/NetlinkWriter" "bytes" "[B" (.ref b) ∧ Fld Z h a "com/example/glowworm/glowworm/NetlinkWriter" "openNests" "Ljava/util/Deque;" (.ref dq) ∧ Arv Z h b ka .byte (64 : Int32) (List.set (List.set (List.set (List.set vs (n).toNatClampNeg (.int (x.toInt8.toInt32))) ((n + (1 : Int32))).toNatClampNeg (.int (y.toInt8.toInt32))) (((n + (1 : Int32)) + (1 : Int32))).toNatClampNeg (.int (0 : Int32))) ((((n + (1 : Int32)) + (1 : Int32)) + (1 : Int32))).toNatClampNeg (.int (0 : Int32))) (.int (0 : Int32))
theorem ef_genl (m : MethodId) (x0 : Addr) (x1 : Int32) (x2 : Int32) : entryFrame m #[(.ref x0), (.int x1), (.int x2)] 3 = mkF m 0 #[.val (.ref x0), .val (.int x1), .val (.int x2)] [] := by first | (simp [entryFrame, mkF, argsToLocals, Value.category]; done) | rfl
set_option maxRecDepth 65536 in
set_option maxHeartbeats 40000000 in
theorem rm_genl (l : Launch) (Z : State) (a0 : Array Value) (hw : ∀ d ∈ tables_1, d.before a0 Z = true) (a : Addr) (b : Addr) (dq : Addr) (ka : ClassId) (n : Int32) (vs : List Value) (x : Int32) (y : Int32) (h0 : Heap) (n0 : Nat) (Z0 : n0 ≤ h0.size) (F_length_a : Fld Z h0 a "com/example/glowworm/glowworm/NetlinkWriter" "length" "I" (.int n)) (F_bytes_a : Fld Z h0 a "com/example/glowworm/glowworm/NetlinkWriter" "bytes" "[B" (.ref b)) (F_openNests_a : Fld Z h0 a "com/example/glowworm/glowworm/NetlinkWriter" "openNests" "Ljava/util/Deque;" (.ref dq)) (V_b : Arv Z h0 b ka .byte (64 : Int32) vs (.int (0 : Int32))) (E_a : Exa Z h0 a "com/example/glowworm/glowworm/NetlinkWriter") (g_a : n0 ≤ a) (g_b : n0 ≤ b) (ne_a_b : a ≠ b) (hn0 : ¬ n < (0 : Int32)) (hn1 : n < (56 : Int32)) (hle : vs.length = 64) :
    Ct l Z (⟨"com/example/glowworm/glowworm/NetlinkWriter", "genlHeader", "(II)Lcom/example/glowworm/glowworm/NetlinkWriter;"⟩ : MethodName) prog_15_method_2_code 3 (some (.object "com/example/glowworm/glowworm/NetlinkWriter")) [] ({ frames := 2, cells := 0, slots := 0, locals := 26 } : Room) #[(.ref a), (.int x), (.int y)] h0 (Q_genl Z a b dq ka n vs x y h0 n0) := by
  refine own_body (plainFor_of_name pn_2) (fun m => ef_genl m a x y) ?_
  intro p e s m below meth c T0 hx hby hml hZ hown hnm hret hlk X0 e0
  have N0 := Fr.nil n0
  refine g_aloadN X0 hx (hb hby d_prog_15_m_2_0) rfl rfl rfl ?_
  refine g_iloadN X0 hx (hb hby d_prog_15_m_2_1) rfl rfl ?_
  refine g_i2b X0 hx (hb hby d_prog_15_m_2_2) rfl rfl ?_
  refine g_private X0 hx hZ hown (hw _ (List.mem_of_getElem? (i := 39) rfl)) (hw _ (List.mem_of_getElem? (i := 40) rfl)) (hw _ (List.mem_of_getElem? (i := 1) rfl)) (hw _ (List.mem_of_getElem? (i := 41) rfl)) (hw _ (List.mem_of_getElem? (i := 2) rfl)) (hw _ (List.mem_of_getElem? (i := 42) rfl)) (by decide) (a := a) E_a (rm_put l Z a0 hw a b dq ka n vs (x.toInt8.toInt32) h0 n0 Z0 F_length_a F_bytes_a F_openNests_a V_b E_a g_a g_b ne_a_b hn0 (own_lt (by decide) hn1) (by simp [hle]) (own_bb _)) (by rw [hml]; rfl) e0 [(.int (x.toInt8.toInt32))] rfl rfl (W := 0) (Nat.le_of_eq rfl) (by decide) (by decide) (by decide) (by decide) (lenOf pd_1 rfl) (hb hby d_prog_15_m_2_3) rfl fun v1 T1 L1 X1 hQ1 => ?_
  obtain ⟨rfl, Nq1, kc1, p1_0, p1_1, p1_2, p1_3, p1_4⟩ := hQ1
  have N1 := Fr.app N0 Nq1
  have kk1 : Keep h0 T1.heap [a, b] := (Keep.refl h0 [a, b]).trans kc1 (allS (Or.inl (by simp)) (allS (Or.inl (by simp)) all0))
  have Z1 : n0 ≤ T1.heap.size := Nat.le_trans Z0 kc1.1
  show Ga _ _ _ _ _ _ _ _ _ _ _ []
  refine g_aloadN X1 hx (hb hby d_prog_15_m_2_6) rfl rfl rfl ?_
  refine g_iloadN X1 hx (hb hby d_prog_15_m_2_7) rfl rfl ?_
  refine g_i2b X1 hx (hb hby d_prog_15_m_2_8) rfl rfl ?_
  refine g_private X1 hx hZ hown (hw _ (List.mem_of_getElem? (i := 39) rfl)) (hw _ (List.mem_of_getElem? (i := 40) rfl)) (hw _ (List.mem_of_getElem? (i := 1) rfl)) (hw _ (List.mem_of_getElem? (i := 41) rfl)) (hw _ (List.mem_of_getElem? (i := 2) rfl)) (hw _ (List.mem_of_getElem? (i := 42) rfl)) (by decide) (a := a) p1_0 (rm_put l Z a0 hw a b dq ka (n + (1 : Int32)) (List.set vs (n).toNatClampNeg (.int (x.toInt8.toInt32))) (y.toInt8.toInt32) T1.heap n0 Z1 p1_1 p1_2 p1_3 p1_4 p1_0 g_a g_b ne_a_b ((own_up1 (64 : Int32) hn0 hn1).1) ((own_up1 (64 : Int32) hn0 hn1).2) (by simp [hle]) (own_bb _)) (by rw [hml]; rfl) rfl [(.int (y.toInt8.toInt32))] rfl rfl (W := 0) (Nat.le_of_eq rfl) (by decide) (by decide) (by decide) (by decide) (lenOf pd_1 rfl) (hb hby d_prog_15_m_2_9) rfl fun v2 T2 L2 X2 hQ2 => ?_
  obtain ⟨rfl, Nq2, kc2, p2_0, p2_1, p2_2, p2_3, p2_4⟩ := hQ2
  have N2 := Fr.app N1 Nq2
  have kk2 : Keep h0 T2.heap [a, b] := kk1.trans kc2 (allS (Or.inl (by simp)) (allS (Or.inl (by simp)) all0))
  have Z2 : n0 ≤ T2.heap.size := Nat.le_trans Z1 kc2.1
  show Ga _ _ _ _ _ _ _ _ _ _ _ []
  refine g_aloadN X2 hx (hb hby d_prog_15_m_2_12) rfl rfl rfl ?_
  refine g_iconst X2 hx (r := (0 : Int32)) (hb hby d_prog_15_m_2_13) rfl rfl ?_
  refine g_private X2 hx hZ hown (hw _ (List.mem_of_getElem? (i := 35) rfl)) (hw _ (List.mem_of_getElem? (i := 36) rfl)) (hw _ (List.mem_of_getElem? (i := 1) rfl)) (hw _ (List.mem_of_getElem? (i := 37) rfl)) (hw _ (List.mem_of_getElem? (i := 2) rfl)) (hw _ (List.mem_of_getElem? (i := 38) rfl)) (by decide) (a := a) p2_0 (rm_pu16 l Z a0 hw a b dq ka ((n + (1 : Int32)) + (1 : Int32)) (List.set (List.set vs (n).toNatClampNeg (.int (x.toInt8.toInt32))) ((n + (1 : Int32))).toNatClampNeg (.int (y.toInt8.toInt32))) (0 : Int32) T2.heap n0 Z2 p2_1 p2_2 p2_3 p2_4 p2_0 g_a g_b ne_a_b ((own_up2 (60 : Int32) hn0 hn1).1) ((own_up2 (60 : Int32) hn0 hn1).2) (by simp [hle])) (by rw [hml]; rfl) rfl [(.int (0 : Int32))] rfl rfl (W := 0) (Nat.le_of_eq rfl) (by decide) (by decide) (by decide) (by decide) (lenOf pd_2 rfl) (hb hby d_prog_15_m_2_14) rfl fun v3 T3 L3 X3 hQ3 => ?_
  obtain ⟨rfl, Nq3, kc3, p3_0, p3_1, p3_2, p3_3, p3_4⟩ := hQ3
  have N3 := Fr.app N2 Nq3
  have kk3 : Keep h0 T3.heap [a, b] := kk2.trans kc3 (allS (Or.inl (by simp)) (allS (Or.inl (by simp)) all0))
  have Z3 : n0 ≤ T3.heap.size := Nat.le_trans Z2 kc3.1
  show Ga _ _ _ _ _ _ _ _ _ _ _ []
  refine g_aloadN X3 hx (hb hby d_prog_15_m_2_17) rfl rfl rfl ?_
  exact g_retR X3 hx hret hlk rfl rfl rfl (hb hby d_prog_15_m_2_18) (by decide) (by decide) ⟨rfl, N3, kk3, p3_0, p3_1, p3_2, p3_3, p3_4⟩
def Q_su16 (Z : State) (a : Addr) (b : Addr) (ka : ClassId) (vs : List Value) (i : Int32) (x : Int32) (h0 : Heap) (n0 : Nat) (v : Option Value) (h : Heap) (L : List Loc) : Prop := v = none ∧ Fr n0 L ∧ Keep h0 h [b] ∧ Arv Z h b ka .byte (64 : Int32) (List.set (List.set vs (i).toNatClampNeg (.int (x.toInt8.toInt32))) ((i + (1 : Int32))).toNatClampNeg (.int (((x.toUInt32 >>> ((8 : Int32) &&& 31).toUInt32).toInt32).toInt8.toInt32))) (.int (0 : Int32))
theorem ef_su16 (m : MethodId) (x0 : Addr) (x1 : Int32) (x2 : Int32) : entryFrame m #[(.ref x0), (.int x1), (.int x2)] 3 = mkF m 0 #[.val (.ref x0), .val (.int x1), .val (.int x2)] [] := by first | (simp [entryFrame, mkF, argsToLocals, Value.category]; done) | rfl
set_option maxRecDepth 65536 in
set_option maxHeartbeats 40000000 in
theorem rm_su16 (l : Launch) (Z : State) (a0 : Array Value) (hw : ∀ d ∈ tables_1, d.before a0 Z = true) (a : Addr) (b : Addr) (ka : ClassId) (vs : List Value) (i : Int32) (x : Int32) (h0 : Heap) (n0 : Nat) (Z0 : n0 ≤ h0.size) (F_bytes_a : Fld Z h0 a "com/example/glowworm/glowworm/NetlinkWriter" "bytes" "[B" (.ref b)) (V_b : Arv Z h0 b ka .byte (64 : Int32) vs (.int (0 : Int32))) (g_b : n0 ≤ b) (ne_a_b : a ≠ b) (hi0 : ¬ i < (0 : Int32)) (hi1 : i < (60 : Int32)) (hle : vs.length = 64) :
    Ct l Z (⟨"com/example/glowworm/glowworm/NetlinkWriter", "setU16", "(II)V"⟩ : MethodName) prog_15_method_18_code 3 none [] ({ frames := 0, cells := 0, slots := 0, locals := 0 } : Room) #[(.ref a), (.int i), (.int x)] h0 (Q_su16 Z a b ka vs i x h0 n0) := by
  refine own_body (plainFor_of_name pn_2) (fun m => ef_su16 m a i x) ?_
  intro p e s m below meth c T0 hx hby hml hZ hown hnm hret hlk X0 e0
  have N0 := Fr.nil n0
  refine g_aloadN X0 hx (hb hby d_prog_15_m_18_0) rfl rfl rfl ?_
  refine g_getF X0 hx hZ hown (host := "") (Or.inl (hw _ (List.mem_of_getElem? (i := 10) rfl))) Via.refl e0 F_bytes_a (hb hby d_prog_15_m_18_1) rfl fun T1 X1 e1 => ?_
  refine g_iloadN X1 hx (hb hby d_prog_15_m_18_4) rfl rfl ?_
  refine g_iloadN X1 hx (hb hby d_prog_15_m_18_5) rfl rfl ?_
  refine g_i2b X1 hx (hb hby d_prog_15_m_18_6) rfl rfl ?_
  refine g_bastore X1 hx hZ e1 V_b ⟨hi0, own_lt (by decide) hi1⟩ (by rw [hle]; exact own_nat hi0 (own_lt (y := (64 : Int32)) (by decide) hi1)) (hb hby d_prog_15_m_18_7) rfl fun T2 h2 X2 e2 W2 V2 => ?_
  rw [own_nar, own_bb] at V2
  have Vn2 : Arv Z h2 b ka .byte (64 : Int32) (List.set vs (i).toNatClampNeg (.int (x.toInt8.toInt32))) (.int (0 : Int32)) := V2
  have kk2 : Keep h0 h2 [b] := (Keep.refl h0 [b]).wr W2 (Or.inl (by simp))
  have N2 := Fr.snoc X2 N0 g_b
  have Z2 : n0 ≤ h2.size := by rw [W2.size]; exact Z0
  refine g_aloadN X2 hx (hb hby d_prog_15_m_18_8) rfl rfl rfl ?_
  have f4 : Fld Z h2 a "com/example/glowworm/glowworm/NetlinkWriter" "bytes" "[B" (.ref b) := (F_bytes_a.other W2 (Or.inl ne_a_b))
  refine g_getF X2 hx hZ hown (host := "") (Or.inl (hw _ (List.mem_of_getElem? (i := 10) rfl))) Via.refl e2 f4 (hb hby d_prog_15_m_18_9) rfl fun T3 X3 e3 => ?_
  refine g_iloadN X3 hx (hb hby d_prog_15_m_18_12) rfl rfl ?_
  refine g_iconst X3 hx (r := (1 : Int32)) (hb hby d_prog_15_m_18_13) rfl rfl ?_
  refine g_iadd X3 hx (hb hby d_prog_15_m_18_14) rfl rfl ?_
  refine g_iloadN X3 hx (hb hby d_prog_15_m_18_15) rfl rfl ?_
  refine g_bipush X3 hx (r := (8 : Int32)) (hb hby d_prog_15_m_18_16) rfl rfl ?_
  refine g_iushr X3 hx (hb hby d_prog_15_m_18_18) rfl rfl ?_
  refine g_i2b X3 hx (hb hby d_prog_15_m_18_19) rfl rfl ?_
  refine g_bastore X3 hx hZ e3 Vn2 (own_up1 (64 : Int32) hi0 hi1) (by rw [List.length_set, hle]; exact own_nat (z := (64 : Int32)) (own_up1 (64 : Int32) hi0 hi1).1 (own_up1 (64 : Int32) hi0 hi1).2) (hb hby d_prog_15_m_18_20) rfl fun T5 h5 X5 e5 W5 V5 => ?_
  rw [own_nar, own_bb] at V5
  have Vn5 : Arv Z h5 b ka .byte (64 : Int32) (List.set (List.set vs (i).toNatClampNeg (.int (x.toInt8.toInt32))) ((i + (1 : Int32))).toNatClampNeg (.int (((x.toUInt32 >>> ((8 : Int32) &&& 31).toUInt32).toInt32).toInt8.toInt32))) (.int (0 : Int32)) := V5
  have kk5 : Keep h0 h5 [b] := kk2.wr W5 (Or.inl (by simp))
  have N5 := Fr.snoc X5 N2 g_b
  have Z5 : n0 ≤ h5.size := by rw [W5.size]; exact Z2
  exact g_ret X5 hx hret hlk (hb hby d_prog_15_m_18_21) (by decide) (by decide) (by rw [e5]; exact ⟨rfl, N5, kk5, Vn5⟩)
def Q_minY (Z : State) (x : Int32) (y : Int32) (h0 : Heap) (n0 : Nat) (v : Option Value) (h : Heap) (L : List Loc) : Prop := v = some (.int y) ∧ Fr n0 L ∧ h = h0
theorem ef_minY (m : MethodId) (x0 : Int32) (x1 : Int32) : entryFrame m #[(.int x0), (.int x1)] 2 = mkF m 0 #[.val (.int x0), .val (.int x1)] [] := by first | (simp [entryFrame, mkF, argsToLocals, Value.category]; done) | rfl
set_option maxRecDepth 65536 in
set_option maxHeartbeats 40000000 in
theorem rm_minY (l : Launch) (Z : State) (a0 : Array Value) (hw : ∀ d ∈ tables_1, d.before a0 Z = true) (x : Int32) (y : Int32) (h0 : Heap) (n0 : Nat) (Z0 : n0 ≤ h0.size) (hxy : y < x) :
    Ct l Z (⟨"java/lang/Math", "min", "(II)I"⟩ : MethodName) jdk_29_method_69_code 2 (some .int) [] ({ frames := 0, cells := 0, slots := 0, locals := 0 } : Room) #[(.int x), (.int y)] h0 (Q_minY Z x y h0 n0) := by
  refine own_body (Jvm.Free.JP.mathPlain rfl (by decide +kernel)) (fun m => ef_minY m x y) ?_
  intro p e s m below meth c T0 hx hby hml hZ hown hnm hret hlk X0 e0
  have N0 := Fr.nil n0
  refine g_iloadN X0 hx (hb hby d_jdk_29_m_69_0) rfl rfl ?_
  refine g_iloadN X0 hx (hb hby d_jdk_29_m_69_1) rfl rfl ?_
  have hc2 : y < x := hxy
  refine g_icmpY X0 hx (q := 9) (hb hby d_jdk_29_m_69_2) (XT.ii_gt_t hc2) (by decide) (by decide) ?_
  refine g_iloadN X0 hx (hb hby d_jdk_29_m_69_9) rfl rfl ?_
  exact g_retI X0 hx hret hlk (hb hby d_jdk_29_m_69_10) (by decide) (by decide) (by rw [e0]; exact ⟨rfl, N0, rfl⟩)
def Q_cpof (Z : State) (b : Addr) (ka : ClassId) (vs : List Value) (h0 : Heap) (n0 : Nat) (v : Option Value) (h : Heap) (L : List Loc) : Prop := ∃ (d : Addr) (kd : ClassId), v = some (.ref d) ∧ Fr n0 L ∧ Keep h0 h [] ∧ h0.size ≤ d ∧ Arv Z h d kd .byte (20 : Int32) ((List.range 20).map fun i => (vs).getD i (.int (0 : Int32))) (.int (0 : Int32))
theorem ef_cpof (m : MethodId) (x0 : Addr) (x1 : Int32) : entryFrame m #[(.ref x0), (.int x1)] 3 = mkF m 0 #[.val (.ref x0), .val (.int x1), .unset] [] := by first | (simp [entryFrame, mkF, argsToLocals, Value.category]; done) | rfl
set_option maxRecDepth 65536 in
set_option maxHeartbeats 40000000 in
theorem rm_cpof (l : Launch) (Z : State) (a0 : Array Value) (hw : ∀ d ∈ tables_1, d.before a0 Z = true) (b : Addr) (ka : ClassId) (vs : List Value) (h0 : Heap) (n0 : Nat) (Z0 : n0 ≤ h0.size) (V_b : Arv Z h0 b ka .byte (64 : Int32) vs (.int (0 : Int32))) :
    Ct l Z (⟨"java/util/Arrays", "copyOf", "([BI)[B"⟩ : MethodName) jdk_65_method_121_code 3 (some (.array .byte)) [] ({ frames := 1, cells := 1, slots := 20, locals := 18 } : Room) #[(.ref b), (.int (20 : Int32))] h0 (Q_cpof Z b ka vs h0 n0) := by
  refine own_body (plainFor_of_name pn_3) (fun m => ef_cpof m b (20 : Int32)) ?_
  intro p e s m below meth c T0 hx hby hml hZ hown hnm hret hlk X0 e0
  have N0 := Fr.nil n0
  refine g_iloadN X0 hx (hb hby d_jdk_65_m_121_0) rfl rfl ?_
  refine g_aloadN X0 hx (hb hby d_jdk_65_m_121_1) rfl rfl rfl ?_
  refine g_len X0 hx hZ e0 V_b (hb hby d_jdk_65_m_121_2) rfl ?_
  refine g_icmpY X0 hx (q := 14) (hb hby d_jdk_65_m_121_3) (XT.ii_ne_t (by decide : ¬ (20 : Int32) = (64 : Int32))) (by decide) (by decide) ?_
  refine g_iloadN X0 hx (hb hby d_jdk_65_m_121_14) rfl rfl ?_
  refine g_newarray X0 hx hZ (aty := .byte) (hw _ (List.mem_of_getElem? (i := 9) rfl)) e0 (by decide) 20 (by decide) (by decide) (by decide) (by decide) (ad := "[B") (by decide) (hb hby d_jdk_65_m_121_15) rfl fun T1 h1 b1 ka1 X1 e1 q1 E1 A1 V1 => ?_
  have ne_b_b1 : b ≠ b1 := own_ne V_b.lt q1
  have g_b1 : n0 ≤ b1 := Nat.le_trans Z0 (Nat.le_of_eq q1.symm)
  have sz_b1 : h0.size ≤ b1 := Nat.le_trans (Keep.refl h0 []).1 (Nat.le_of_eq q1.symm)
  have Z1 : n0 ≤ h1.size := Nat.le_trans Z0 E1.1
  have kk1 : Keep h0 h1 [] := (Keep.refl h0 []).ext E1
  have Vn1 : Arv Z h1 b1 ka1 .byte (20 : Int32) [(.int (0 : Int32)), (.int (0 : Int32)), (.int (0 : Int32)), (.int (0 : Int32)), (.int (0 : Int32)), (.int (0 : Int32)), (.int (0 : Int32)), (.int (0 : Int32)), (.int (0 : Int32)), (.int (0 : Int32)), (.int (0 : Int32)), (.int (0 : Int32)), (.int (0 : Int32)), (.int (0 : Int32)), (.int (0 : Int32)), (.int (0 : Int32)), (.int (0 : Int32)), (.int (0 : Int32)), (.int (0 : Int32)), (.int (0 : Int32))] (.int (0 : Int32)) := V1
  refine g_astoreN X1 hx (Ls' := #[.val (.ref b), .val (.int (20 : Int32)), .val (.ref b1)]) (hb hby d_jdk_65_m_121_17) rfl rfl rfl ?_
  refine g_aloadN X1 hx (hb hby d_jdk_65_m_121_18) rfl rfl rfl ?_
  refine g_iconst X1 hx (r := (0 : Int32)) (hb hby d_jdk_65_m_121_19) rfl rfl ?_
  refine g_aloadN X1 hx (hb hby d_jdk_65_m_121_20) rfl rfl rfl ?_
  refine g_iconst X1 hx (r := (0 : Int32)) (hb hby d_jdk_65_m_121_21) rfl rfl ?_
  refine g_aloadN X1 hx (hb hby d_jdk_65_m_121_22) rfl rfl rfl ?_
  have f2 : Arv Z h1 b ka .byte (64 : Int32) vs (.int (0 : Int32)) := (V_b.ext E1)
  refine g_len X1 hx hZ e1 f2 (hb hby d_jdk_65_m_121_23) rfl ?_
  refine g_iloadN X1 hx (hb hby d_jdk_65_m_121_24) rfl rfl ?_
  refine g_static X1 hx hZ hown (hw _ (List.mem_of_getElem? (i := 76) rfl)) (hw _ (List.mem_of_getElem? (i := 77) rfl)) (hw _ (List.mem_of_getElem? (i := 78) rfl)) (hw _ (List.mem_of_getElem? (i := 79) rfl)) (by decide) (rm_minY l Z a0 hw (64 : Int32) (20 : Int32) h1 n0 Z1 (by first | decide | assumption | rfl | (intro _; rfl))) (by rw [hml]; rfl) e1 [(.int (64 : Int32)), (.int (20 : Int32))] rfl rfl (W := 4) (Nat.le_of_eq rfl) (by decide) (by decide) (by decide) (by decide) (lenOf pd_3 rfl) (hb hby d_jdk_65_m_121_25) rfl fun v3 T3 L3 X3 hQ3 => ?_
  obtain ⟨rfl, Nq3, eh3⟩ := hQ3
  have N3 := Fr.app N0 Nq3
  show Ga _ _ _ _ _ _ _ _ _ _ _ [(.int (20 : Int32)), (.int (0 : Int32)), (.ref b1), (.int (0 : Int32)), (.ref b)]
  refine g_acopyF X3 hx hZ hown (hw _ (List.mem_of_getElem? (i := 80) rfl)) (hw _ (List.mem_of_getElem? (i := 83) rfl)) (hw _ (List.mem_of_getElem? (i := 81) rfl)) (hw _ (List.mem_of_getElem? (i := 82) rfl)) eh3 f2 Vn1 rfl (by decide) (by decide) (by decide) rfl N3 g_b1 (by rw [hml]; rfl) (hb hby d_jdk_65_m_121_28) rfl (by decide) (W := 0) (Nat.le_of_eq rfl) (by decide) fun T4 h4 L4 X4 e4 Nq4 kc4 V4 => ?_
  have Vn4 : Arv Z h4 b1 ka1 .byte (20 : Int32) ((List.range 20).map fun i => (vs).getD i (.int (0 : Int32))) (.int (0 : Int32)) := V4
  have kk4 : Keep h0 h4 [] := kk1.trans kc4 (allS (Or.inr sz_b1) all0)
  have Z4 : n0 ≤ h4.size := Nat.le_trans Z1 kc4.1
  refine g_aloadN X4 hx (hb hby d_jdk_65_m_121_31) rfl rfl rfl ?_
  exact g_retR X4 hx hret hlk rfl rfl rfl (hb hby d_jdk_65_m_121_32) (by decide) (by decide) (by rw [e4]; exact ⟨b1, ka1, rfl, Nq4, kk4, sz_b1, Vn4⟩)
def Q_tobytes (Z : State) (a : Addr) (b : Addr) (dq : Addr) (ka : ClassId) (vs : List Value) (h0 : Heap) (n0 : Nat) (v : Option Value) (h : Heap) (L : List Loc) : Prop := ∃ (d : Addr) (kd : ClassId), v = some (.ref d) ∧ Fr n0 L ∧ Keep h0 h [b] ∧ h0.size ≤ d ∧ Arv Z h d kd .byte (20 : Int32) ((List.range 20).map fun i => ((List.set (List.set (List.set (List.set vs ((0 : Int32)).toNatClampNeg (.int (20 : Int32))) ((1 : Int32)).toNatClampNeg (.int (0 : Int32))) ((2 : Int32)).toNatClampNeg (.int (0 : Int32))) ((3 : Int32)).toNatClampNeg (.int (0 : Int32)))).getD i (.int (0 : Int32))) (.int (0 : Int32))
theorem ef_tobytes (m : MethodId) (x0 : Addr) : entryFrame m #[(.ref x0)] 1 = mkF m 0 #[.val (.ref x0)] [] := by first | (simp [entryFrame, mkF, argsToLocals, Value.category]; done) | rfl
set_option maxRecDepth 65536 in
set_option maxHeartbeats 40000000 in
theorem rm_tobytes (l : Launch) (Z : State) (a0 : Array Value) (hw : ∀ d ∈ tables_1, d.before a0 Z = true) (a : Addr) (b : Addr) (dq : Addr) (ka : ClassId) (vs : List Value) (h0 : Heap) (n0 : Nat) (Z0 : n0 ≤ h0.size) (F_length_a : Fld Z h0 a "com/example/glowworm/glowworm/NetlinkWriter" "length" "I" (.int (20 : Int32))) (F_bytes_a : Fld Z h0 a "com/example/glowworm/glowworm/NetlinkWriter" "bytes" "[B" (.ref b)) (F_openNests_a : Fld Z h0 a "com/example/glowworm/glowworm/NetlinkWriter" "openNests" "Ljava/util/Deque;" (.ref dq)) (V_b : Arv Z h0 b ka .byte (64 : Int32) vs (.int (0 : Int32))) (E_a : Exa Z h0 a "com/example/glowworm/glowworm/NetlinkWriter") (g_b : n0 ≤ b) (ne_a_b : a ≠ b) (E_dq : Exa Z h0 dq "java/util/ArrayDeque") (F_head_dq : Fld Z h0 dq "java/util/ArrayDeque" "head" "I" (.int (0 : Int32))) (F_tail_dq : Fld Z h0 dq "java/util/ArrayDeque" "tail" "I" (.int (0 : Int32))) (hle : vs.length = 64) :
    Ct l Z (⟨"com/example/glowworm/glowworm/NetlinkWriter", "toBytes", "()[B"⟩ : MethodName) prog_15_method_12_code 1 (some (.array .byte)) [] ({ frames := 2, cells := 1, slots := 20, locals := 32 } : Room) #[(.ref a)] h0 (Q_tobytes Z a b dq ka vs h0 n0) := by
  refine own_body (plainFor_of_name pn_2) (fun m => ef_tobytes m a) ?_
  intro p e s m below meth c T0 hx hby hml hZ hown hnm hret hlk X0 e0
  have N0 := Fr.nil n0
  refine g_aloadN X0 hx (hb hby d_prog_15_m_12_0) rfl rfl rfl ?_
  refine g_getF X0 hx hZ hown (host := "") (Or.inl (hw _ (List.mem_of_getElem? (i := 29) rfl))) Via.refl e0 F_openNests_a (hb hby d_prog_15_m_12_1) rfl fun T1 X1 e1 => ?_
  refine g_ifaceUp X1 hx hZ hown (hw _ (List.mem_of_getElem? (i := 55) rfl)) (hw _ (List.mem_of_getElem? (i := 56) rfl)) (hw _ (List.mem_of_getElem? (i := 57) rfl)) (by decide) (by decide) (hw _ (List.mem_of_getElem? (i := 58) rfl)) (hw _ (List.mem_of_getElem? (i := 59) rfl)) (hw _ (List.mem_of_getElem? (i := 60) rfl)) (hw _ (List.mem_of_getElem? (i := 61) rfl)) (hw _ (List.mem_of_getElem? (i := 62) rfl)) (hw _ (List.mem_of_getElem? (i := 14) rfl)) (hw _ (List.mem_of_getElem? (i := 63) rfl)) (by decide) (a := dq) E_dq (rm_dqemp l Z a0 hw dq h0 n0 Z0 F_head_dq F_tail_dq) (by rw [hml]; rfl) e1 [] rfl rfl (W := 0) (Nat.le_of_eq rfl) (by decide) (by decide) (by decide) (by decide) (lenOf pd_4 rfl) (hb hby d_prog_15_m_12_4) rfl fun v2 T2 L2 X2 hQ2 => ?_
  obtain ⟨rfl, Nq2, eh2⟩ := hQ2
  have N2 := Fr.app N0 Nq2
  show Ga _ _ _ _ _ _ _ _ _ _ _ [(.int (1 : Int32))]
  refine g_ifY X2 hx (q := 34) (hb hby d_prog_15_m_12_9) (XT.i0_ne_t (by decide : ¬ (1 : Int32) = (0 : Int32))) (by decide) (by decide) ?_
  refine g_aloadN X2 hx (hb hby d_prog_15_m_12_34) rfl rfl rfl ?_
  refine g_iconst X2 hx (r := (0 : Int32)) (hb hby d_prog_15_m_12_35) rfl rfl ?_
  refine g_aloadN X2 hx (hb hby d_prog_15_m_12_36) rfl rfl rfl ?_
  refine g_getF X2 hx hZ hown (host := "") (Or.inl (hw _ (List.mem_of_getElem? (i := 43) rfl))) Via.refl eh2 F_length_a (hb hby d_prog_15_m_12_37) rfl fun T3 X3 e3 => ?_
  refine g_private X3 hx hZ hown (hw _ (List.mem_of_getElem? (i := 68) rfl)) (hw _ (List.mem_of_getElem? (i := 69) rfl)) (hw _ (List.mem_of_getElem? (i := 1) rfl)) (hw _ (List.mem_of_getElem? (i := 70) rfl)) (hw _ (List.mem_of_getElem? (i := 2) rfl)) (hw _ (List.mem_of_getElem? (i := 71) rfl)) (by decide) (a := a) E_a (rm_su16 l Z a0 hw a b ka vs (0 : Int32) (20 : Int32) h0 n0 Z0 F_bytes_a V_b g_b ne_a_b (by decide) (by decide) (by simp [hle])) (by rw [hml]; rfl) e3 [(.int (0 : Int32)), (.int (20 : Int32))] rfl rfl (W := 0) (Nat.le_of_eq rfl) (by decide) (by decide) (by decide) (by decide) (lenOf pd_5 rfl) (hb hby d_prog_15_m_12_40) rfl fun v4 T4 L4 X4 hQ4 => ?_
  obtain ⟨rfl, Nq4, kc4, p4_0⟩ := hQ4
  have N4 := Fr.app N2 Nq4
  have kk4 : Keep h0 T4.heap [b] := (Keep.refl h0 [b]).trans kc4 (allS (Or.inl (by simp)) all0)
  have Z4 : n0 ≤ T4.heap.size := Nat.le_trans Z0 kc4.1
  show Ga _ _ _ _ _ _ _ _ _ _ _ []
  refine g_aloadN X4 hx (hb hby d_prog_15_m_12_43) rfl rfl rfl ?_
  refine g_iconst X4 hx (r := (2 : Int32)) (hb hby d_prog_15_m_12_44) rfl rfl ?_
  refine g_aloadN X4 hx (hb hby d_prog_15_m_12_45) rfl rfl rfl ?_
  have f6 : Fld Z T4.heap a "com/example/glowworm/glowworm/NetlinkWriter" "length" "I" (.int (20 : Int32)) := (F_length_a.keep kc4 (ninS ne_a_b nin0))
  refine g_getF X4 hx hZ hown (host := "") (Or.inl (hw _ (List.mem_of_getElem? (i := 43) rfl))) Via.refl rfl f6 (hb hby d_prog_15_m_12_46) rfl fun T5 X5 e5 => ?_
  refine g_bipush X5 hx (r := (16 : Int32)) (hb hby d_prog_15_m_12_49) rfl rfl ?_
  refine g_iushr X5 hx (r := (0 : Int32)) (hb hby d_prog_15_m_12_51) rfl rfl ?_
  have f8 : Fld Z T4.heap a "com/example/glowworm/glowworm/NetlinkWriter" "bytes" "[B" (.ref b) := (F_bytes_a.keep kc4 (ninS ne_a_b nin0))
  have f9 : Exa Z T4.heap a "com/example/glowworm/glowworm/NetlinkWriter" := (E_a.keep kc4)
  refine g_private X5 hx hZ hown (hw _ (List.mem_of_getElem? (i := 68) rfl)) (hw _ (List.mem_of_getElem? (i := 69) rfl)) (hw _ (List.mem_of_getElem? (i := 1) rfl)) (hw _ (List.mem_of_getElem? (i := 70) rfl)) (hw _ (List.mem_of_getElem? (i := 2) rfl)) (hw _ (List.mem_of_getElem? (i := 71) rfl)) (by decide) (a := a) f9 (rm_su16 l Z a0 hw a b ka (List.set (List.set vs ((0 : Int32)).toNatClampNeg (.int (20 : Int32))) ((1 : Int32)).toNatClampNeg (.int (0 : Int32))) (2 : Int32) (0 : Int32) T4.heap n0 Z4 f8 p4_0 g_b ne_a_b (by decide) (by decide) (by simp [hle])) (by rw [hml]; rfl) e5 [(.int (2 : Int32)), (.int (0 : Int32))] rfl rfl (W := 0) (Nat.le_of_eq rfl) (by decide) (by decide) (by decide) (by decide) (lenOf pd_5 rfl) (hb hby d_prog_15_m_12_52) rfl fun v7 T7 L7 X7 hQ7 => ?_
  obtain ⟨rfl, Nq7, kc7, p7_0⟩ := hQ7
  have N7 := Fr.app N4 Nq7
  have kk7 : Keep h0 T7.heap [b] := kk4.trans kc7 (allS (Or.inl (by simp)) all0)
  have Z7 : n0 ≤ T7.heap.size := Nat.le_trans Z4 kc7.1
  show Ga _ _ _ _ _ _ _ _ _ _ _ []
  refine g_aloadN X7 hx (hb hby d_prog_15_m_12_55) rfl rfl rfl ?_
  have f11 : Fld Z T7.heap a "com/example/glowworm/glowworm/NetlinkWriter" "bytes" "[B" (.ref b) := (f8.keep kc7 (ninS ne_a_b nin0))
  refine g_getF X7 hx hZ hown (host := "") (Or.inl (hw _ (List.mem_of_getElem? (i := 10) rfl))) Via.refl rfl f11 (hb hby d_prog_15_m_12_56) rfl fun T10 X10 e10 => ?_
  refine g_aloadN X10 hx (hb hby d_prog_15_m_12_59) rfl rfl rfl ?_
  have f13 : Fld Z T7.heap a "com/example/glowworm/glowworm/NetlinkWriter" "length" "I" (.int (20 : Int32)) := (f6.keep kc7 (ninS ne_a_b nin0))
  refine g_getF X10 hx hZ hown (host := "") (Or.inl (hw _ (List.mem_of_getElem? (i := 43) rfl))) Via.refl e10 f13 (hb hby d_prog_15_m_12_60) rfl fun T12 X12 e12 => ?_
  refine g_static X12 hx hZ hown (hw _ (List.mem_of_getElem? (i := 72) rfl)) (hw _ (List.mem_of_getElem? (i := 73) rfl)) (hw _ (List.mem_of_getElem? (i := 74) rfl)) (hw _ (List.mem_of_getElem? (i := 75) rfl)) (by decide) (rm_cpof l Z a0 hw b ka (List.set (List.set (List.set (List.set vs ((0 : Int32)).toNatClampNeg (.int (20 : Int32))) ((1 : Int32)).toNatClampNeg (.int (0 : Int32))) ((2 : Int32)).toNatClampNeg (.int (0 : Int32))) ((3 : Int32)).toNatClampNeg (.int (0 : Int32))) T7.heap n0 Z7 p7_0) (by rw [hml]; rfl) e12 [(.ref b), (.int (20 : Int32))] rfl rfl (W := 0) (Nat.le_of_eq rfl) (by decide) (by decide) (by decide) (by decide) (lenOf pd_6 rfl) (hb hby d_prog_15_m_12_63) rfl fun v14 T14 L14 X14 hQ14 => ?_
  obtain ⟨d_14, kd_14, rfl, Nq14, kc14, p14_0, p14_1⟩ := hQ14
  have N14 := Fr.app N7 Nq14
  have f15 : Exa Z T7.heap dq "java/util/ArrayDeque" := ((E_dq.keep kc4).keep kc7)
  have ne_a_d_14 : a ≠ d_14 := own_neK f13.lt p14_0
  have ne_b_d_14 : b ≠ d_14 := own_neK p7_0.lt p14_0
  have ne_dq_d_14 : dq ≠ d_14 := own_neK f15.lt p14_0
  have g_d_14 : n0 ≤ d_14 := Nat.le_trans Z7 p14_0
  have sz_d_14 : h0.size ≤ d_14 := Nat.le_trans kk7.1 p14_0
  have kk14 : Keep h0 T14.heap [b] := kk7.trans kc14 all0
  have Z14 : n0 ≤ T14.heap.size := Nat.le_trans Z7 kc14.1
  show Ga _ _ _ _ _ _ _ _ _ _ _ [(.ref d_14)]
  exact g_retR X14 hx hret hlk rfl rfl rfl (hb hby d_prog_15_m_12_66) (by decide) (by decide) ⟨d_14, kd_14, rfl, N14, kk14, sz_d_14, p14_1⟩
def Q_u32_0 (Z : State) (b : Addr) (ka : ClassId) (y : Int32) (x0 : Int32) (x1 : Int32) (x2 : Int32) (x3 : Int32) (x4 : Int32) (x5 : Int32) (x6 : Int32) (x7 : Int32) (x8 : Int32) (x9 : Int32) (x10 : Int32) (x11 : Int32) (x12 : Int32) (x13 : Int32) (x14 : Int32) (x15 : Int32) (x16 : Int32) (x17 : Int32) (x18 : Int32) (x19 : Int32) (h0 : Heap) (n0 : Nat) (v : Option Value) (h : Heap) (L : List Loc) : Prop := v = some (.int (1 : Int32)) ∧ Fr n0 L ∧ h = h0
theorem ef_u32_0 (m : MethodId) (x0 : Addr) (x1 : Int32) (x2 : Int32) : entryFrame m #[(.ref x0), (.int x1), (.int x2)] 5 = mkF m 0 #[.val (.ref x0), .val (.int x1), .val (.int x2), .unset, .unset] [] := by first | (simp [entryFrame, mkF, argsToLocals, Value.category]; done) | rfl
set_option maxRecDepth 65536 in
set_option maxHeartbeats 40000000 in
theorem rm_u32_0 (l : Launch) (Z : State) (a0 : Array Value) (hw : ∀ d ∈ tables_1, d.before a0 Z = true) (b : Addr) (ka : ClassId) (y : Int32) (x0 : Int32) (x1 : Int32) (x2 : Int32) (x3 : Int32) (x4 : Int32) (x5 : Int32) (x6 : Int32) (x7 : Int32) (x8 : Int32) (x9 : Int32) (x10 : Int32) (x11 : Int32) (x12 : Int32) (x13 : Int32) (x14 : Int32) (x15 : Int32) (x16 : Int32) (x17 : Int32) (x18 : Int32) (x19 : Int32) (h0 : Heap) (n0 : Nat) (Z0 : n0 ≤ h0.size) (V_b : Arv Z h0 b ka .byte (20 : Int32) [(.int x0), (.int x1), (.int x2), (.int x3), (.int x4), (.int x5), (.int x6), (.int x7), (.int x8), (.int x9), (.int x10), (.int x11), (.int x12), (.int x13), (.int x14), (.int x15), (.int x16), (.int x17), (.int x18), (.int x19)] (.int (0 : Int32))) (heq : (((((x0 &&& (255 : Int32)).toInt64) + ((256 : Int64) * ((x1 &&& (255 : Int32)).toInt64))) + ((65536 : Int64) * ((x2 &&& (255 : Int32)).toInt64))) + ((16777216 : Int64) * ((x3 &&& (255 : Int32)).toInt64))) = (y.toInt64 &&& (4294967295 : Int64))) :
    Ct l Z (⟨"com/example/glowworm/glowworm/NetlinkWriterGenlHeaderPinLaw", "u32At", "([BII)Z"⟩ : MethodName) method_3_code 5 (some .boolean) [] ({ frames := 0, cells := 0, slots := 0, locals := 0 } : Room) #[(.ref b), (.int (0 : Int32)), (.int y)] h0 (Q_u32_0 Z b ka y x0 x1 x2 x3 x4 x5 x6 x7 x8 x9 x10 x11 x12 x13 x14 x15 x16 x17 x18 x19 h0 n0) := by
  refine own_body (plainFor_of_name pn_4) (fun m => ef_u32_0 m b (0 : Int32) y) ?_
  intro p e s m below meth c T0 hx hby hml hZ hown hnm hret hlk X0 e0
  have N0 := Fr.nil n0
  refine g_aloadN X0 hx (hb hby d_m_3_0) rfl rfl rfl ?_
  refine g_iloadN X0 hx (hb hby d_m_3_1) rfl rfl ?_
  refine g_baload X0 hx hZ e0 V_b (v := (.int x0)) ⟨by decide, by decide⟩ rfl (hb hby d_m_3_2) rfl ?_
  refine g_sipush X0 hx (r := (255 : Int32)) (hb hby d_m_3_3) rfl rfl ?_
  refine g_iand X0 hx (hb hby d_m_3_6) rfl rfl ?_
  refine g_i2l X0 hx (hb hby d_m_3_7) rfl rfl ?_
  refine g_ldc2 X0 hx hZ hown (hw _ (List.mem_of_getElem? (i := 88) rfl)) (hb hby d_m_3_8) rfl ?_
  refine g_aloadN X0 hx (hb hby d_m_3_11) rfl rfl rfl ?_
  refine g_iloadN X0 hx (hb hby d_m_3_12) rfl rfl ?_
  refine g_iconst X0 hx (r := (1 : Int32)) (hb hby d_m_3_13) rfl rfl ?_
  refine g_iadd X0 hx (r := (1 : Int32)) (hb hby d_m_3_14) rfl rfl ?_
  refine g_baload X0 hx hZ e0 V_b (v := (.int x1)) ⟨by decide, by decide⟩ rfl (hb hby d_m_3_15) rfl ?_
  refine g_sipush X0 hx (r := (255 : Int32)) (hb hby d_m_3_16) rfl rfl ?_
  refine g_iand X0 hx (hb hby d_m_3_19) rfl rfl ?_
  refine g_i2l X0 hx (hb hby d_m_3_20) rfl rfl ?_
  refine g_lmul X0 hx (hb hby d_m_3_21) rfl rfl ?_
  refine g_ladd X0 hx (hb hby d_m_3_22) rfl rfl ?_
  refine g_ldc2 X0 hx hZ hown (hw _ (List.mem_of_getElem? (i := 89) rfl)) (hb hby d_m_3_23) rfl ?_
  refine g_aloadN X0 hx (hb hby d_m_3_26) rfl rfl rfl ?_
  refine g_iloadN X0 hx (hb hby d_m_3_27) rfl rfl ?_
  refine g_iconst X0 hx (r := (2 : Int32)) (hb hby d_m_3_28) rfl rfl ?_
  refine g_iadd X0 hx (r := (2 : Int32)) (hb hby d_m_3_29) rfl rfl ?_
  refine g_baload X0 hx hZ e0 V_b (v := (.int x2)) ⟨by decide, by decide⟩ rfl (hb hby d_m_3_30) rfl ?_
  refine g_sipush X0 hx (r := (255 : Int32)) (hb hby d_m_3_31) rfl rfl ?_
  refine g_iand X0 hx (hb hby d_m_3_34) rfl rfl ?_
  refine g_i2l X0 hx (hb hby d_m_3_35) rfl rfl ?_
  refine g_lmul X0 hx (hb hby d_m_3_36) rfl rfl ?_
  refine g_ladd X0 hx (hb hby d_m_3_37) rfl rfl ?_
  refine g_ldc2 X0 hx hZ hown (hw _ (List.mem_of_getElem? (i := 90) rfl)) (hb hby d_m_3_38) rfl ?_
  refine g_aloadN X0 hx (hb hby d_m_3_41) rfl rfl rfl ?_
  refine g_iloadN X0 hx (hb hby d_m_3_42) rfl rfl ?_
  refine g_iconst X0 hx (r := (3 : Int32)) (hb hby d_m_3_43) rfl rfl ?_
  refine g_iadd X0 hx (r := (3 : Int32)) (hb hby d_m_3_44) rfl rfl ?_
  refine g_baload X0 hx hZ e0 V_b (v := (.int x3)) ⟨by decide, by decide⟩ rfl (hb hby d_m_3_45) rfl ?_
  refine g_sipush X0 hx (r := (255 : Int32)) (hb hby d_m_3_46) rfl rfl ?_
  refine g_iand X0 hx (hb hby d_m_3_49) rfl rfl ?_
  refine g_i2l X0 hx (hb hby d_m_3_50) rfl rfl ?_
  refine g_lmul X0 hx (hb hby d_m_3_51) rfl rfl ?_
  refine g_ladd X0 hx (hb hby d_m_3_52) rfl rfl ?_
  refine g_lstoreN X0 hx (Ls' := #[.val (.ref b), .val (.int (0 : Int32)), .val (.int y), .val (.long (((((x0 &&& (255 : Int32)).toInt64) + ((256 : Int64) * ((x1 &&& (255 : Int32)).toInt64))) + ((65536 : Int64) * ((x2 &&& (255 : Int32)).toInt64))) + ((16777216 : Int64) * ((x3 &&& (255 : Int32)).toInt64)))), .second]) (hb hby d_m_3_53) rfl rfl ?_
  refine g_lloadN X0 hx (hb hby d_m_3_54) rfl rfl ?_
  refine g_iloadN X0 hx (hb hby d_m_3_55) rfl rfl ?_
  refine g_i2l X0 hx (hb hby d_m_3_56) rfl rfl ?_
  refine g_ldc2 X0 hx hZ hown (hw _ (List.mem_of_getElem? (i := 91) rfl)) (hb hby d_m_3_57) rfl ?_
  refine g_land X0 hx (hb hby d_m_3_60) rfl rfl ?_
  refine g_lcmp X0 hx (hb hby d_m_3_61) rfl  ?_
  have hc62 : (((((x0 &&& (255 : Int32)).toInt64) + ((256 : Int64) * ((x1 &&& (255 : Int32)).toInt64))) + ((65536 : Int64) * ((x2 &&& (255 : Int32)).toInt64))) + ((16777216 : Int64) * ((x3 &&& (255 : Int32)).toInt64))) = ((y.toInt64) &&& (4294967295 : Int64)) := heq
  refine g_ifN X0 hx (hb hby d_m_3_62) rfl (XT.ll_ne_f hc62) ?_
  refine g_iconst X0 hx (r := (1 : Int32)) (hb hby d_m_3_65) rfl rfl ?_
  refine g_goto X0 hx (q := 70) (hb hby d_m_3_66) (by decide) (by decide) ?_
  exact g_retN X0 hx (t := .boolean) (r := (1 : Int32)) hret (by simp) hlk (hb hby d_m_3_70) rfl (by decide) (by decide) (by rw [e0]; exact ⟨rfl, N0, rfl⟩)
def Q_u32_8 (Z : State) (b : Addr) (ka : ClassId) (y : Int32) (x0 : Int32) (x1 : Int32) (x2 : Int32) (x3 : Int32) (x4 : Int32) (x5 : Int32) (x6 : Int32) (x7 : Int32) (x8 : Int32) (x9 : Int32) (x10 : Int32) (x11 : Int32) (x12 : Int32) (x13 : Int32) (x14 : Int32) (x15 : Int32) (x16 : Int32) (x17 : Int32) (x18 : Int32) (x19 : Int32) (h0 : Heap) (n0 : Nat) (v : Option Value) (h : Heap) (L : List Loc) : Prop := v = some (.int (1 : Int32)) ∧ Fr n0 L ∧ h = h0
theorem ef_u32_8 (m : MethodId) (x0 : Addr) (x1 : Int32) (x2 : Int32) : entryFrame m #[(.ref x0), (.int x1), (.int x2)] 5 = mkF m 0 #[.val (.ref x0), .val (.int x1), .val (.int x2), .unset, .unset] [] := by first | (simp [entryFrame, mkF, argsToLocals, Value.category]; done) | rfl
set_option maxRecDepth 65536 in
set_option maxHeartbeats 40000000 in
theorem rm_u32_8 (l : Launch) (Z : State) (a0 : Array Value) (hw : ∀ d ∈ tables_1, d.before a0 Z = true) (b : Addr) (ka : ClassId) (y : Int32) (x0 : Int32) (x1 : Int32) (x2 : Int32) (x3 : Int32) (x4 : Int32) (x5 : Int32) (x6 : Int32) (x7 : Int32) (x8 : Int32) (x9 : Int32) (x10 : Int32) (x11 : Int32) (x12 : Int32) (x13 : Int32) (x14 : Int32) (x15 : Int32) (x16 : Int32) (x17 : Int32) (x18 : Int32) (x19 : Int32) (h0 : Heap) (n0 : Nat) (Z0 : n0 ≤ h0.size) (V_b : Arv Z h0 b ka .byte (20 : Int32) [(.int x0), (.int x1), (.int x2), (.int x3), (.int x4), (.int x5), (.int x6), (.int x7), (.int x8), (.int x9), (.int x10), (.int x11), (.int x12), (.int x13), (.int x14), (.int x15), (.int x16), (.int x17), (.int x18), (.int x19)] (.int (0 : Int32))) (heq : (((((x8 &&& (255 : Int32)).toInt64) + ((256 : Int64) * ((x9 &&& (255 : Int32)).toInt64))) + ((65536 : Int64) * ((x10 &&& (255 : Int32)).toInt64))) + ((16777216 : Int64) * ((x11 &&& (255 : Int32)).toInt64))) = (y.toInt64 &&& (4294967295 : Int64))) :
    Ct l Z (⟨"com/example/glowworm/glowworm/NetlinkWriterGenlHeaderPinLaw", "u32At", "([BII)Z"⟩ : MethodName) method_3_code 5 (some .boolean) [] ({ frames := 0, cells := 0, slots := 0, locals := 0 } : Room) #[(.ref b), (.int (8 : Int32)), (.int y)] h0 (Q_u32_8 Z b ka y x0 x1 x2 x3 x4 x5 x6 x7 x8 x9 x10 x11 x12 x13 x14 x15 x16 x17 x18 x19 h0 n0) := by
  refine own_body (plainFor_of_name pn_4) (fun m => ef_u32_8 m b (8 : Int32) y) ?_
  intro p e s m below meth c T0 hx hby hml hZ hown hnm hret hlk X0 e0
  have N0 := Fr.nil n0
  refine g_aloadN X0 hx (hb hby d_m_3_0) rfl rfl rfl ?_
  refine g_iloadN X0 hx (hb hby d_m_3_1) rfl rfl ?_
  refine g_baload X0 hx hZ e0 V_b (v := (.int x8)) ⟨by decide, by decide⟩ rfl (hb hby d_m_3_2) rfl ?_
  refine g_sipush X0 hx (r := (255 : Int32)) (hb hby d_m_3_3) rfl rfl ?_
  refine g_iand X0 hx (hb hby d_m_3_6) rfl rfl ?_
  refine g_i2l X0 hx (hb hby d_m_3_7) rfl rfl ?_
  refine g_ldc2 X0 hx hZ hown (hw _ (List.mem_of_getElem? (i := 88) rfl)) (hb hby d_m_3_8) rfl ?_
  refine g_aloadN X0 hx (hb hby d_m_3_11) rfl rfl rfl ?_
  refine g_iloadN X0 hx (hb hby d_m_3_12) rfl rfl ?_
  refine g_iconst X0 hx (r := (1 : Int32)) (hb hby d_m_3_13) rfl rfl ?_
  refine g_iadd X0 hx (r := (9 : Int32)) (hb hby d_m_3_14) rfl rfl ?_
  refine g_baload X0 hx hZ e0 V_b (v := (.int x9)) ⟨by decide, by decide⟩ rfl (hb hby d_m_3_15) rfl ?_
  refine g_sipush X0 hx (r := (255 : Int32)) (hb hby d_m_3_16) rfl rfl ?_
  refine g_iand X0 hx (hb hby d_m_3_19) rfl rfl ?_
  refine g_i2l X0 hx (hb hby d_m_3_20) rfl rfl ?_
  refine g_lmul X0 hx (hb hby d_m_3_21) rfl rfl ?_
  refine g_ladd X0 hx (hb hby d_m_3_22) rfl rfl ?_
  refine g_ldc2 X0 hx hZ hown (hw _ (List.mem_of_getElem? (i := 89) rfl)) (hb hby d_m_3_23) rfl ?_
  refine g_aloadN X0 hx (hb hby d_m_3_26) rfl rfl rfl ?_
  refine g_iloadN X0 hx (hb hby d_m_3_27) rfl rfl ?_
  refine g_iconst X0 hx (r := (2 : Int32)) (hb hby d_m_3_28) rfl rfl ?_
  refine g_iadd X0 hx (r := (10 : Int32)) (hb hby d_m_3_29) rfl rfl ?_
  refine g_baload X0 hx hZ e0 V_b (v := (.int x10)) ⟨by decide, by decide⟩ rfl (hb hby d_m_3_30) rfl ?_
  refine g_sipush X0 hx (r := (255 : Int32)) (hb hby d_m_3_31) rfl rfl ?_
  refine g_iand X0 hx (hb hby d_m_3_34) rfl rfl ?_
  refine g_i2l X0 hx (hb hby d_m_3_35) rfl rfl ?_
  refine g_lmul X0 hx (hb hby d_m_3_36) rfl rfl ?_
  refine g_ladd X0 hx (hb hby d_m_3_37) rfl rfl ?_
  refine g_ldc2 X0 hx hZ hown (hw _ (List.mem_of_getElem? (i := 90) rfl)) (hb hby d_m_3_38) rfl ?_
  refine g_aloadN X0 hx (hb hby d_m_3_41) rfl rfl rfl ?_
  refine g_iloadN X0 hx (hb hby d_m_3_42) rfl rfl ?_
  refine g_iconst X0 hx (r := (3 : Int32)) (hb hby d_m_3_43) rfl rfl ?_
  refine g_iadd X0 hx (r := (11 : Int32)) (hb hby d_m_3_44) rfl rfl ?_
  refine g_baload X0 hx hZ e0 V_b (v := (.int x11)) ⟨by decide, by decide⟩ rfl (hb hby d_m_3_45) rfl ?_
  refine g_sipush X0 hx (r := (255 : Int32)) (hb hby d_m_3_46) rfl rfl ?_
  refine g_iand X0 hx (hb hby d_m_3_49) rfl rfl ?_
  refine g_i2l X0 hx (hb hby d_m_3_50) rfl rfl ?_
  refine g_lmul X0 hx (hb hby d_m_3_51) rfl rfl ?_
  refine g_ladd X0 hx (hb hby d_m_3_52) rfl rfl ?_
  refine g_lstoreN X0 hx (Ls' := #[.val (.ref b), .val (.int (8 : Int32)), .val (.int y), .val (.long (((((x8 &&& (255 : Int32)).toInt64) + ((256 : Int64) * ((x9 &&& (255 : Int32)).toInt64))) + ((65536 : Int64) * ((x10 &&& (255 : Int32)).toInt64))) + ((16777216 : Int64) * ((x11 &&& (255 : Int32)).toInt64)))), .second]) (hb hby d_m_3_53) rfl rfl ?_
  refine g_lloadN X0 hx (hb hby d_m_3_54) rfl rfl ?_
  refine g_iloadN X0 hx (hb hby d_m_3_55) rfl rfl ?_
  refine g_i2l X0 hx (hb hby d_m_3_56) rfl rfl ?_
  refine g_ldc2 X0 hx hZ hown (hw _ (List.mem_of_getElem? (i := 91) rfl)) (hb hby d_m_3_57) rfl ?_
  refine g_land X0 hx (hb hby d_m_3_60) rfl rfl ?_
  refine g_lcmp X0 hx (hb hby d_m_3_61) rfl  ?_
  have hc62 : (((((x8 &&& (255 : Int32)).toInt64) + ((256 : Int64) * ((x9 &&& (255 : Int32)).toInt64))) + ((65536 : Int64) * ((x10 &&& (255 : Int32)).toInt64))) + ((16777216 : Int64) * ((x11 &&& (255 : Int32)).toInt64))) = ((y.toInt64) &&& (4294967295 : Int64)) := heq
  refine g_ifN X0 hx (hb hby d_m_3_62) rfl (XT.ll_ne_f hc62) ?_
  refine g_iconst X0 hx (r := (1 : Int32)) (hb hby d_m_3_65) rfl rfl ?_
  refine g_goto X0 hx (q := 70) (hb hby d_m_3_66) (by decide) (by decide) ?_
  exact g_retN X0 hx (t := .boolean) (r := (1 : Int32)) hret (by simp) hlk (hb hby d_m_3_70) rfl (by decide) (by decide) (by rw [e0]; exact ⟨rfl, N0, rfl⟩)
def Q_u32_12 (Z : State) (b : Addr) (ka : ClassId) (y : Int32) (x0 : Int32) (x1 : Int32) (x2 : Int32) (x3 : Int32) (x4 : Int32) (x5 : Int32) (x6 : Int32) (x7 : Int32) (x8 : Int32) (x9 : Int32) (x10 : Int32) (x11 : Int32) (x12 : Int32) (x13 : Int32) (x14 : Int32) (x15 : Int32) (x16 : Int32) (x17 : Int32) (x18 : Int32) (x19 : Int32) (h0 : Heap) (n0 : Nat) (v : Option Value) (h : Heap) (L : List Loc) : Prop := v = some (.int (1 : Int32)) ∧ Fr n0 L ∧ h = h0
theorem ef_u32_12 (m : MethodId) (x0 : Addr) (x1 : Int32) (x2 : Int32) : entryFrame m #[(.ref x0), (.int x1), (.int x2)] 5 = mkF m 0 #[.val (.ref x0), .val (.int x1), .val (.int x2), .unset, .unset] [] := by first | (simp [entryFrame, mkF, argsToLocals, Value.category]; done) | rfl
set_option maxRecDepth 65536 in
set_option maxHeartbeats 40000000 in
theorem rm_u32_12 (l : Launch) (Z : State) (a0 : Array Value) (hw : ∀ d ∈ tables_1, d.before a0 Z = true) (b : Addr) (ka : ClassId) (y : Int32) (x0 : Int32) (x1 : Int32) (x2 : Int32) (x3 : Int32) (x4 : Int32) (x5 : Int32) (x6 : Int32) (x7 : Int32) (x8 : Int32) (x9 : Int32) (x10 : Int32) (x11 : Int32) (x12 : Int32) (x13 : Int32) (x14 : Int32) (x15 : Int32) (x16 : Int32) (x17 : Int32) (x18 : Int32) (x19 : Int32) (h0 : Heap) (n0 : Nat) (Z0 : n0 ≤ h0.size) (V_b : Arv Z h0 b ka .byte (20 : Int32) [(.int x0), (.int x1), (.int x2), (.int x3), (.int x4), (.int x5), (.int x6), (.int x7), (.int x8), (.int x9), (.int x10), (.int x11), (.int x12), (.int x13), (.int x14), (.int x15), (.int x16), (.int x17), (.int x18), (.int x19)] (.int (0 : Int32))) (heq : (((((x12 &&& (255 : Int32)).toInt64) + ((256 : Int64) * ((x13 &&& (255 : Int32)).toInt64))) + ((65536 : Int64) * ((x14 &&& (255 : Int32)).toInt64))) + ((16777216 : Int64) * ((x15 &&& (255 : Int32)).toInt64))) = (y.toInt64 &&& (4294967295 : Int64))) :
    Ct l Z (⟨"com/example/glowworm/glowworm/NetlinkWriterGenlHeaderPinLaw", "u32At", "([BII)Z"⟩ : MethodName) method_3_code 5 (some .boolean) [] ({ frames := 0, cells := 0, slots := 0, locals := 0 } : Room) #[(.ref b), (.int (12 : Int32)), (.int y)] h0 (Q_u32_12 Z b ka y x0 x1 x2 x3 x4 x5 x6 x7 x8 x9 x10 x11 x12 x13 x14 x15 x16 x17 x18 x19 h0 n0) := by
  refine own_body (plainFor_of_name pn_4) (fun m => ef_u32_12 m b (12 : Int32) y) ?_
  intro p e s m below meth c T0 hx hby hml hZ hown hnm hret hlk X0 e0
  have N0 := Fr.nil n0
  refine g_aloadN X0 hx (hb hby d_m_3_0) rfl rfl rfl ?_
  refine g_iloadN X0 hx (hb hby d_m_3_1) rfl rfl ?_
  refine g_baload X0 hx hZ e0 V_b (v := (.int x12)) ⟨by decide, by decide⟩ rfl (hb hby d_m_3_2) rfl ?_
  refine g_sipush X0 hx (r := (255 : Int32)) (hb hby d_m_3_3) rfl rfl ?_
  refine g_iand X0 hx (hb hby d_m_3_6) rfl rfl ?_
  refine g_i2l X0 hx (hb hby d_m_3_7) rfl rfl ?_
  refine g_ldc2 X0 hx hZ hown (hw _ (List.mem_of_getElem? (i := 88) rfl)) (hb hby d_m_3_8) rfl ?_
  refine g_aloadN X0 hx (hb hby d_m_3_11) rfl rfl rfl ?_
  refine g_iloadN X0 hx (hb hby d_m_3_12) rfl rfl ?_
  refine g_iconst X0 hx (r := (1 : Int32)) (hb hby d_m_3_13) rfl rfl ?_
  refine g_iadd X0 hx (r := (13 : Int32)) (hb hby d_m_3_14) rfl rfl ?_
  refine g_baload X0 hx hZ e0 V_b (v := (.int x13)) ⟨by decide, by decide⟩ rfl (hb hby d_m_3_15) rfl ?_
  refine g_sipush X0 hx (r := (255 : Int32)) (hb hby d_m_3_16) rfl rfl ?_
  refine g_iand X0 hx (hb hby d_m_3_19) rfl rfl ?_
  refine g_i2l X0 hx (hb hby d_m_3_20) rfl rfl ?_
  refine g_lmul X0 hx (hb hby d_m_3_21) rfl rfl ?_
  refine g_ladd X0 hx (hb hby d_m_3_22) rfl rfl ?_
  refine g_ldc2 X0 hx hZ hown (hw _ (List.mem_of_getElem? (i := 89) rfl)) (hb hby d_m_3_23) rfl ?_
  refine g_aloadN X0 hx (hb hby d_m_3_26) rfl rfl rfl ?_
  refine g_iloadN X0 hx (hb hby d_m_3_27) rfl rfl ?_
  refine g_iconst X0 hx (r := (2 : Int32)) (hb hby d_m_3_28) rfl rfl ?_
  refine g_iadd X0 hx (r := (14 : Int32)) (hb hby d_m_3_29) rfl rfl ?_
  refine g_baload X0 hx hZ e0 V_b (v := (.int x14)) ⟨by decide, by decide⟩ rfl (hb hby d_m_3_30) rfl ?_
  refine g_sipush X0 hx (r := (255 : Int32)) (hb hby d_m_3_31) rfl rfl ?_
  refine g_iand X0 hx (hb hby d_m_3_34) rfl rfl ?_
  refine g_i2l X0 hx (hb hby d_m_3_35) rfl rfl ?_
  refine g_lmul X0 hx (hb hby d_m_3_36) rfl rfl ?_
  refine g_ladd X0 hx (hb hby d_m_3_37) rfl rfl ?_
  refine g_ldc2 X0 hx hZ hown (hw _ (List.mem_of_getElem? (i := 90) rfl)) (hb hby d_m_3_38) rfl ?_
  refine g_aloadN X0 hx (hb hby d_m_3_41) rfl rfl rfl ?_
  refine g_iloadN X0 hx (hb hby d_m_3_42) rfl rfl ?_
  refine g_iconst X0 hx (r := (3 : Int32)) (hb hby d_m_3_43) rfl rfl ?_
  refine g_iadd X0 hx (r := (15 : Int32)) (hb hby d_m_3_44) rfl rfl ?_
  refine g_baload X0 hx hZ e0 V_b (v := (.int x15)) ⟨by decide, by decide⟩ rfl (hb hby d_m_3_45) rfl ?_
  refine g_sipush X0 hx (r := (255 : Int32)) (hb hby d_m_3_46) rfl rfl ?_
  refine g_iand X0 hx (hb hby d_m_3_49) rfl rfl ?_
  refine g_i2l X0 hx (hb hby d_m_3_50) rfl rfl ?_
  refine g_lmul X0 hx (hb hby d_m_3_51) rfl rfl ?_
  refine g_ladd X0 hx (hb hby d_m_3_52) rfl rfl ?_
  refine g_lstoreN X0 hx (Ls' := #[.val (.ref b), .val (.int (12 : Int32)), .val (.int y), .val (.long (((((x12 &&& (255 : Int32)).toInt64) + ((256 : Int64) * ((x13 &&& (255 : Int32)).toInt64))) + ((65536 : Int64) * ((x14 &&& (255 : Int32)).toInt64))) + ((16777216 : Int64) * ((x15 &&& (255 : Int32)).toInt64)))), .second]) (hb hby d_m_3_53) rfl rfl ?_
  refine g_lloadN X0 hx (hb hby d_m_3_54) rfl rfl ?_
  refine g_iloadN X0 hx (hb hby d_m_3_55) rfl rfl ?_
  refine g_i2l X0 hx (hb hby d_m_3_56) rfl rfl ?_
  refine g_ldc2 X0 hx hZ hown (hw _ (List.mem_of_getElem? (i := 91) rfl)) (hb hby d_m_3_57) rfl ?_
  refine g_land X0 hx (hb hby d_m_3_60) rfl rfl ?_
  refine g_lcmp X0 hx (hb hby d_m_3_61) rfl  ?_
  have hc62 : (((((x12 &&& (255 : Int32)).toInt64) + ((256 : Int64) * ((x13 &&& (255 : Int32)).toInt64))) + ((65536 : Int64) * ((x14 &&& (255 : Int32)).toInt64))) + ((16777216 : Int64) * ((x15 &&& (255 : Int32)).toInt64))) = ((y.toInt64) &&& (4294967295 : Int64)) := heq
  refine g_ifN X0 hx (hb hby d_m_3_62) rfl (XT.ll_ne_f hc62) ?_
  refine g_iconst X0 hx (r := (1 : Int32)) (hb hby d_m_3_65) rfl rfl ?_
  refine g_goto X0 hx (q := 70) (hb hby d_m_3_66) (by decide) (by decide) ?_
  exact g_retN X0 hx (t := .boolean) (r := (1 : Int32)) hret (by simp) hlk (hb hby d_m_3_70) rfl (by decide) (by decide) (by rw [e0]; exact ⟨rfl, N0, rfl⟩)
def Q_u16_4 (Z : State) (b : Addr) (ka : ClassId) (y : Int32) (x0 : Int32) (x1 : Int32) (x2 : Int32) (x3 : Int32) (x4 : Int32) (x5 : Int32) (x6 : Int32) (x7 : Int32) (x8 : Int32) (x9 : Int32) (x10 : Int32) (x11 : Int32) (x12 : Int32) (x13 : Int32) (x14 : Int32) (x15 : Int32) (x16 : Int32) (x17 : Int32) (x18 : Int32) (x19 : Int32) (h0 : Heap) (n0 : Nat) (v : Option Value) (h : Heap) (L : List Loc) : Prop := v = some (.int (1 : Int32)) ∧ Fr n0 L ∧ h = h0
theorem ef_u16_4 (m : MethodId) (x0 : Addr) (x1 : Int32) (x2 : Int32) : entryFrame m #[(.ref x0), (.int x1), (.int x2)] 4 = mkF m 0 #[.val (.ref x0), .val (.int x1), .val (.int x2), .unset] [] := by first | (simp [entryFrame, mkF, argsToLocals, Value.category]; done) | rfl
set_option maxRecDepth 65536 in
set_option maxHeartbeats 40000000 in
theorem rm_u16_4 (l : Launch) (Z : State) (a0 : Array Value) (hw : ∀ d ∈ tables_1, d.before a0 Z = true) (b : Addr) (ka : ClassId) (y : Int32) (x0 : Int32) (x1 : Int32) (x2 : Int32) (x3 : Int32) (x4 : Int32) (x5 : Int32) (x6 : Int32) (x7 : Int32) (x8 : Int32) (x9 : Int32) (x10 : Int32) (x11 : Int32) (x12 : Int32) (x13 : Int32) (x14 : Int32) (x15 : Int32) (x16 : Int32) (x17 : Int32) (x18 : Int32) (x19 : Int32) (h0 : Heap) (n0 : Nat) (Z0 : n0 ≤ h0.size) (V_b : Arv Z h0 b ka .byte (20 : Int32) [(.int x0), (.int x1), (.int x2), (.int x3), (.int x4), (.int x5), (.int x6), (.int x7), (.int x8), (.int x9), (.int x10), (.int x11), (.int x12), (.int x13), (.int x14), (.int x15), (.int x16), (.int x17), (.int x18), (.int x19)] (.int (0 : Int32))) (heq : ((x4 &&& (255 : Int32)) ||| ((x5 &&& (255 : Int32)) <<< ((8 : Int32) &&& 31))) = (y &&& (65535 : Int32))) :
    Ct l Z (⟨"com/example/glowworm/glowworm/NetlinkWriterGenlHeaderPinLaw", "u16At", "([BII)Z"⟩ : MethodName) method_2_code 4 (some .boolean) [] ({ frames := 0, cells := 0, slots := 0, locals := 0 } : Room) #[(.ref b), (.int (4 : Int32)), (.int y)] h0 (Q_u16_4 Z b ka y x0 x1 x2 x3 x4 x5 x6 x7 x8 x9 x10 x11 x12 x13 x14 x15 x16 x17 x18 x19 h0 n0) := by
  refine own_body (plainFor_of_name pn_4) (fun m => ef_u16_4 m b (4 : Int32) y) ?_
  intro p e s m below meth c T0 hx hby hml hZ hown hnm hret hlk X0 e0
  have N0 := Fr.nil n0
  refine g_aloadN X0 hx (hb hby d_m_2_0) rfl rfl rfl ?_
  refine g_iloadN X0 hx (hb hby d_m_2_1) rfl rfl ?_
  refine g_baload X0 hx hZ e0 V_b (v := (.int x4)) ⟨by decide, by decide⟩ rfl (hb hby d_m_2_2) rfl ?_
  refine g_sipush X0 hx (r := (255 : Int32)) (hb hby d_m_2_3) rfl rfl ?_
  refine g_iand X0 hx (hb hby d_m_2_6) rfl rfl ?_
  refine g_aloadN X0 hx (hb hby d_m_2_7) rfl rfl rfl ?_
  refine g_iloadN X0 hx (hb hby d_m_2_8) rfl rfl ?_
  refine g_iconst X0 hx (r := (1 : Int32)) (hb hby d_m_2_9) rfl rfl ?_
  refine g_iadd X0 hx (r := (5 : Int32)) (hb hby d_m_2_10) rfl rfl ?_
  refine g_baload X0 hx hZ e0 V_b (v := (.int x5)) ⟨by decide, by decide⟩ rfl (hb hby d_m_2_11) rfl ?_
  refine g_sipush X0 hx (r := (255 : Int32)) (hb hby d_m_2_12) rfl rfl ?_
  refine g_iand X0 hx (hb hby d_m_2_15) rfl rfl ?_
  refine g_bipush X0 hx (r := (8 : Int32)) (hb hby d_m_2_16) rfl rfl ?_
  refine g_ishl X0 hx (hb hby d_m_2_18) rfl rfl ?_
  refine g_ior X0 hx (hb hby d_m_2_19) rfl rfl ?_
  refine g_istoreN X0 hx (Ls' := #[.val (.ref b), .val (.int (4 : Int32)), .val (.int y), .val (.int ((x4 &&& (255 : Int32)) ||| ((x5 &&& (255 : Int32)) <<< ((8 : Int32) &&& 31))))]) (hb hby d_m_2_20) rfl rfl ?_
  refine g_iloadN X0 hx (hb hby d_m_2_21) rfl rfl ?_
  refine g_iloadN X0 hx (hb hby d_m_2_22) rfl rfl ?_
  refine g_ldcI X0 hx hZ hown (hw _ (List.mem_of_getElem? (i := 95) rfl)) (hb hby d_m_2_23) rfl ?_
  refine g_iand X0 hx (hb hby d_m_2_25) rfl rfl ?_
  have hc26 : ((x4 &&& (255 : Int32)) ||| ((x5 &&& (255 : Int32)) <<< ((8 : Int32) &&& 31))) = (y &&& (65535 : Int32)) := heq
  refine g_icmpN X0 hx (hb hby d_m_2_26) rfl (XT.ii_ne_f hc26) ?_
  refine g_iconst X0 hx (r := (1 : Int32)) (hb hby d_m_2_29) rfl rfl ?_
  refine g_goto X0 hx (q := 34) (hb hby d_m_2_30) (by decide) (by decide) ?_
  exact g_retN X0 hx (t := .boolean) (r := (1 : Int32)) hret (by simp) hlk (hb hby d_m_2_34) rfl (by decide) (by decide) (by rw [e0]; exact ⟨rfl, N0, rfl⟩)
def Q_u16_6 (Z : State) (b : Addr) (ka : ClassId) (y : Int32) (x0 : Int32) (x1 : Int32) (x2 : Int32) (x3 : Int32) (x4 : Int32) (x5 : Int32) (x6 : Int32) (x7 : Int32) (x8 : Int32) (x9 : Int32) (x10 : Int32) (x11 : Int32) (x12 : Int32) (x13 : Int32) (x14 : Int32) (x15 : Int32) (x16 : Int32) (x17 : Int32) (x18 : Int32) (x19 : Int32) (h0 : Heap) (n0 : Nat) (v : Option Value) (h : Heap) (L : List Loc) : Prop := v = some (.int (1 : Int32)) ∧ Fr n0 L ∧ h = h0
theorem ef_u16_6 (m : MethodId) (x0 : Addr) (x1 : Int32) (x2 : Int32) : entryFrame m #[(.ref x0), (.int x1), (.int x2)] 4 = mkF m 0 #[.val (.ref x0), .val (.int x1), .val (.int x2), .unset] [] := by first | (simp [entryFrame, mkF, argsToLocals, Value.category]; done) | rfl
set_option maxRecDepth 65536 in
set_option maxHeartbeats 40000000 in
theorem rm_u16_6 (l : Launch) (Z : State) (a0 : Array Value) (hw : ∀ d ∈ tables_1, d.before a0 Z = true) (b : Addr) (ka : ClassId) (y : Int32) (x0 : Int32) (x1 : Int32) (x2 : Int32) (x3 : Int32) (x4 : Int32) (x5 : Int32) (x6 : Int32) (x7 : Int32) (x8 : Int32) (x9 : Int32) (x10 : Int32) (x11 : Int32) (x12 : Int32) (x13 : Int32) (x14 : Int32) (x15 : Int32) (x16 : Int32) (x17 : Int32) (x18 : Int32) (x19 : Int32) (h0 : Heap) (n0 : Nat) (Z0 : n0 ≤ h0.size) (V_b : Arv Z h0 b ka .byte (20 : Int32) [(.int x0), (.int x1), (.int x2), (.int x3), (.int x4), (.int x5), (.int x6), (.int x7), (.int x8), (.int x9), (.int x10), (.int x11), (.int x12), (.int x13), (.int x14), (.int x15), (.int x16), (.int x17), (.int x18), (.int x19)] (.int (0 : Int32))) (heq : ((x6 &&& (255 : Int32)) ||| ((x7 &&& (255 : Int32)) <<< ((8 : Int32) &&& 31))) = (y &&& (65535 : Int32))) :
    Ct l Z (⟨"com/example/glowworm/glowworm/NetlinkWriterGenlHeaderPinLaw", "u16At", "([BII)Z"⟩ : MethodName) method_2_code 4 (some .boolean) [] ({ frames := 0, cells := 0, slots := 0, locals := 0 } : Room) #[(.ref b), (.int (6 : Int32)), (.int y)] h0 (Q_u16_6 Z b ka y x0 x1 x2 x3 x4 x5 x6 x7 x8 x9 x10 x11 x12 x13 x14 x15 x16 x17 x18 x19 h0 n0) := by
  refine own_body (plainFor_of_name pn_4) (fun m => ef_u16_6 m b (6 : Int32) y) ?_
  intro p e s m below meth c T0 hx hby hml hZ hown hnm hret hlk X0 e0
  have N0 := Fr.nil n0
  refine g_aloadN X0 hx (hb hby d_m_2_0) rfl rfl rfl ?_
  refine g_iloadN X0 hx (hb hby d_m_2_1) rfl rfl ?_
  refine g_baload X0 hx hZ e0 V_b (v := (.int x6)) ⟨by decide, by decide⟩ rfl (hb hby d_m_2_2) rfl ?_
  refine g_sipush X0 hx (r := (255 : Int32)) (hb hby d_m_2_3) rfl rfl ?_
  refine g_iand X0 hx (hb hby d_m_2_6) rfl rfl ?_
  refine g_aloadN X0 hx (hb hby d_m_2_7) rfl rfl rfl ?_
  refine g_iloadN X0 hx (hb hby d_m_2_8) rfl rfl ?_
  refine g_iconst X0 hx (r := (1 : Int32)) (hb hby d_m_2_9) rfl rfl ?_
  refine g_iadd X0 hx (r := (7 : Int32)) (hb hby d_m_2_10) rfl rfl ?_
  refine g_baload X0 hx hZ e0 V_b (v := (.int x7)) ⟨by decide, by decide⟩ rfl (hb hby d_m_2_11) rfl ?_
  refine g_sipush X0 hx (r := (255 : Int32)) (hb hby d_m_2_12) rfl rfl ?_
  refine g_iand X0 hx (hb hby d_m_2_15) rfl rfl ?_
  refine g_bipush X0 hx (r := (8 : Int32)) (hb hby d_m_2_16) rfl rfl ?_
  refine g_ishl X0 hx (hb hby d_m_2_18) rfl rfl ?_
  refine g_ior X0 hx (hb hby d_m_2_19) rfl rfl ?_
  refine g_istoreN X0 hx (Ls' := #[.val (.ref b), .val (.int (6 : Int32)), .val (.int y), .val (.int ((x6 &&& (255 : Int32)) ||| ((x7 &&& (255 : Int32)) <<< ((8 : Int32) &&& 31))))]) (hb hby d_m_2_20) rfl rfl ?_
  refine g_iloadN X0 hx (hb hby d_m_2_21) rfl rfl ?_
  refine g_iloadN X0 hx (hb hby d_m_2_22) rfl rfl ?_
  refine g_ldcI X0 hx hZ hown (hw _ (List.mem_of_getElem? (i := 95) rfl)) (hb hby d_m_2_23) rfl ?_
  refine g_iand X0 hx (hb hby d_m_2_25) rfl rfl ?_
  have hc26 : ((x6 &&& (255 : Int32)) ||| ((x7 &&& (255 : Int32)) <<< ((8 : Int32) &&& 31))) = (y &&& (65535 : Int32)) := heq
  refine g_icmpN X0 hx (hb hby d_m_2_26) rfl (XT.ii_ne_f hc26) ?_
  refine g_iconst X0 hx (r := (1 : Int32)) (hb hby d_m_2_29) rfl rfl ?_
  refine g_goto X0 hx (q := 34) (hb hby d_m_2_30) (by decide) (by decide) ?_
  exact g_retN X0 hx (t := .boolean) (r := (1 : Int32)) hret (by simp) hlk (hb hby d_m_2_34) rfl (by decide) (by decide) (by rw [e0]; exact ⟨rfl, N0, rfl⟩)
def Q_law (Z : State) (p0 : Int32) (p1 : Int32) (p2 : Int32) (p3 : Int32) (p4 : Int32) (p5 : Int32) (h0 : Heap) (n0 : Nat) (v : Option Value) (h : Heap) (L : List Loc) : Prop := v = some (.int 1) ∧ Fr n0 L
theorem ef_law (m : MethodId) (x0 : Int32) (x1 : Int32) (x2 : Int32) (x3 : Int32) (x4 : Int32) (x5 : Int32) : entryFrame m #[(.int x0), (.int x1), (.int x2), (.int x3), (.int x4), (.int x5)] maxLocals = mkF m 0 #[.val (.int x0), .val (.int x1), .val (.int x2), .val (.int x3), .val (.int x4), .val (.int x5), .unset, .unset, .unset] [] := by first | (simp [entryFrame, mkF, argsToLocals, Value.category, maxLocals]; done) | rfl
set_option maxRecDepth 65536 in
set_option maxHeartbeats 40000000 in
theorem rm_law (l : Launch) (Z : State) (a0 : Array Value) (hw : ∀ d ∈ tables_1, d.before a0 Z = true) (ws : List Jvm.Cond) (p0 : Int32) (p1 : Int32) (p2 : Int32) (p3 : Int32) (p4 : Int32) (p5 : Int32) (h0 : Heap) (n0 : Nat) (Z0 : n0 ≤ h0.size) :
    Ct l Z x code maxLocals ret ws room_1 #[(.int p0), (.int p1), (.int p2), (.int p3), (.int p4), (.int p5)] h0 (Q_law Z p0 p1 p2 p3 p4 p5 h0 n0) := by
  refine own_body (plainFor_of_name pn_4) (fun m => ef_law m p0 p1 p2 p3 p4 p5) ?_
  intro p e s m below meth c T0 hx hby hml hZ hown hnm hret hlk X0 e0
  have N0 := Fr.nil n0
  refine g_new X0 hx hZ hown (hw _ (List.mem_of_getElem? (i := 0) rfl)) (hw _ (List.mem_of_getElem? (i := 1) rfl)) (hw _ (List.mem_of_getElem? (i := 2) rfl)) e0 (hb hby at_0) rfl (by decide) (by decide) fun T1 h1 b1 X1 e1 q1 E1 A1 D1 => ?_
  have g_b1 : n0 ≤ b1 := Nat.le_trans Z0 (Nat.le_of_eq q1.symm)
  have Z1 : n0 ≤ h1.size := Nat.le_trans Z0 E1.1
  have F1_bytes : Fld Z h1 b1 "com/example/glowworm/glowworm/NetlinkWriter" "bytes" "[B" .null := D1 (Or.inl (hw _ (List.mem_of_getElem? (i := 11) rfl))) (ty := (.array .byte)) (by decide)
  have F1_openNests : Fld Z h1 b1 "com/example/glowworm/glowworm/NetlinkWriter" "openNests" "Ljava/util/Deque;" .null := D1 (Or.inr (hw _ (List.mem_of_getElem? (i := 30) rfl))) (ty := (.object "java/util/Deque")) (by decide)
  have F1_length : Fld Z h1 b1 "com/example/glowworm/glowworm/NetlinkWriter" "length" "I" (.int (0 : Int32)) := D1 (Or.inl (hw _ (List.mem_of_getElem? (i := 44) rfl))) (ty := .int) (by decide)
  refine g_dup X1 hx (hb hby at_3) rfl rfl ?_
  refine g_iloadN X1 hx (hb hby at_4) rfl rfl ?_
  refine g_iloadN X1 hx (hb hby at_5) rfl rfl ?_
  refine g_iloadN X1 hx (hb hby at_6) rfl rfl ?_
  refine g_iloadN X1 hx (hb hby at_7) rfl rfl ?_
  refine g_special X1 hx hZ hown rfl (hw _ (List.mem_of_getElem? (i := 3) rfl)) (hw _ (List.mem_of_getElem? (i := 4) rfl)) (hw _ (List.mem_of_getElem? (i := 2) rfl)) (hw _ (List.mem_of_getElem? (i := 5) rfl)) (by decide) (a := b1) (rm_nini l Z a0 hw b1 p0 p1 p2 p3 h1 n0 Z1 F1_length F1_bytes F1_openNests A1 g_b1) (by rw [hml]; rfl) e1 [(.int p0), (.int p1), (.int p2), (.int p3)] rfl rfl (W := 1) (Nat.le_of_eq rfl) (by decide) (by decide) (by decide) (by decide) (lenOf pd_7 rfl) (hb hby at_8) rfl fun v2 T2 L2 X2 hQ2 => ?_
  obtain ⟨b_2, ka_2, dq_2, rfl, Nq2, kc2, p2_0, p2_1, p2_2, p2_3, p2_4, p2_5, p2_6, p2_7, p2_8, p2_9, p2_10⟩ := hQ2
  have N2 := Fr.app N0 Nq2
  have ne_b1_b_2 : b1 ≠ b_2 := own_neK A1.lt p2_0
  have g_b_2 : n0 ≤ b_2 := Nat.le_trans Z1 p2_0
  have ne_b1_dq_2 : b1 ≠ dq_2 := own_neK A1.lt p2_1
  have g_dq_2 : n0 ≤ dq_2 := Nat.le_trans Z1 p2_1
  have Z2 : n0 ≤ T2.heap.size := Nat.le_trans Z1 kc2.1
  have pv2_10 : Arv Z T2.heap b_2 ka_2 .byte (64 : Int32) [(.int (0 : Int32)), (.int (0 : Int32)), (.int (0 : Int32)), (.int (0 : Int32)), (.int (p0.toInt8.toInt32)), (.int (((p0.toUInt32 >>> ((8 : Int32) &&& 31).toUInt32).toInt32).toInt8.toInt32)), (.int (p1.toInt8.toInt32)), (.int (((p1.toUInt32 >>> ((8 : Int32) &&& 31).toUInt32).toInt32).toInt8.toInt32)), (.int (p2.toInt8.toInt32)), (.int (((p2.toUInt32 >>> ((8 : Int32) &&& 31).toUInt32).toInt32).toInt8.toInt32)), (.int (((p2.toUInt32 >>> ((16 : Int32) &&& 31).toUInt32).toInt32).toInt8.toInt32)), (.int (((((p2.toUInt32 >>> ((16 : Int32) &&& 31).toUInt32).toInt32).toUInt32 >>> ((8 : Int32) &&& 31).toUInt32).toInt32).toInt8.toInt32)), (.int (p3.toInt8.toInt32)), (.int (((p3.toUInt32 >>> ((8 : Int32) &&& 31).toUInt32).toInt32).toInt8.toInt32)), (.int (((p3.toUInt32 >>> ((16 : Int32) &&& 31).toUInt32).toInt32).toInt8.toInt32)), (.int (((((p3.toUInt32 >>> ((16 : Int32) &&& 31).toUInt32).toInt32).toUInt32 >>> ((8 : Int32) &&& 31).toUInt32).toInt32).toInt8.toInt32)), (.int (0 : Int32)), (.int (0 : Int32)), (.int (0 : Int32)), (.int (0 : Int32)), (.int (0 : Int32)), (.int (0 : Int32)), (.int (0 : Int32)), (.int (0 : Int32)), (.int (0 : Int32)), (.int (0 : Int32)), (.int (0 : Int32)), (.int (0 : Int32)), (.int (0 : Int32)), (.int (0 : Int32)), (.int (0 : Int32)), (.int (0 : Int32)), (.int (0 : Int32)), (.int (0 : Int32)), (.int (0 : Int32)), (.int (0 : Int32)), (.int (0 : Int32)), (.int (0 : Int32)), (.int (0 : Int32)), (.int (0 : Int32)), (.int (0 : Int32)), (.int (0 : Int32)), (.int (0 : Int32)), (.int (0 : Int32)), (.int (0 : Int32)), (.int (0 : Int32)), (.int (0 : Int32)), (.int (0 : Int32)), (.int (0 : Int32)), (.int (0 : Int32)), (.int (0 : Int32)), (.int (0 : Int32)), (.int (0 : Int32)), (.int (0 : Int32)), (.int (0 : Int32)), (.int (0 : Int32)), (.int (0 : Int32)), (.int (0 : Int32)), (.int (0 : Int32)), (.int (0 : Int32)), (.int (0 : Int32)), (.int (0 : Int32)), (.int (0 : Int32)), (.int (0 : Int32))] (.int (0 : Int32)) := p2_10
  show Ga _ _ _ _ _ _ _ _ _ _ _ [(.ref b1)]
  refine g_astore X2 hx (Ls' := #[.val (.int p0), .val (.int p1), .val (.int p2), .val (.int p3), .val (.int p4), .val (.int p5), .val (.ref b1), .unset, .unset]) (hb hby at_11) rfl rfl rfl ?_
  refine g_aload X2 hx (hb hby at_13) rfl rfl rfl ?_
  refine g_iload X2 hx (hb hby at_15) rfl rfl ?_
  refine g_iload X2 hx (hb hby at_17) rfl rfl ?_
  refine g_virtual X2 hx hZ hown (hw _ (List.mem_of_getElem? (i := 45) rfl)) (hw _ (List.mem_of_getElem? (i := 46) rfl)) (notFace_of_selects (args := #[]) (mvT hZ (hw _ (List.mem_of_getElem? (i := 48) rfl)))) (hw _ (List.mem_of_getElem? (i := 48) rfl)) (hw _ (List.mem_of_getElem? (i := 47) rfl)) (hw _ (List.mem_of_getElem? (i := 2) rfl)) (hw _ (List.mem_of_getElem? (i := 49) rfl)) (by decide) (a := b1) p2_3 (rm_genl l Z a0 hw b1 b_2 dq_2 ka_2 (16 : Int32) [(.int (0 : Int32)), (.int (0 : Int32)), (.int (0 : Int32)), (.int (0 : Int32)), (.int (p0.toInt8.toInt32)), (.int (((p0.toUInt32 >>> ((8 : Int32) &&& 31).toUInt32).toInt32).toInt8.toInt32)), (.int (p1.toInt8.toInt32)), (.int (((p1.toUInt32 >>> ((8 : Int32) &&& 31).toUInt32).toInt32).toInt8.toInt32)), (.int (p2.toInt8.toInt32)), (.int (((p2.toUInt32 >>> ((8 : Int32) &&& 31).toUInt32).toInt32).toInt8.toInt32)), (.int (((p2.toUInt32 >>> ((16 : Int32) &&& 31).toUInt32).toInt32).toInt8.toInt32)), (.int (((((p2.toUInt32 >>> ((16 : Int32) &&& 31).toUInt32).toInt32).toUInt32 >>> ((8 : Int32) &&& 31).toUInt32).toInt32).toInt8.toInt32)), (.int (p3.toInt8.toInt32)), (.int (((p3.toUInt32 >>> ((8 : Int32) &&& 31).toUInt32).toInt32).toInt8.toInt32)), (.int (((p3.toUInt32 >>> ((16 : Int32) &&& 31).toUInt32).toInt32).toInt8.toInt32)), (.int (((((p3.toUInt32 >>> ((16 : Int32) &&& 31).toUInt32).toInt32).toUInt32 >>> ((8 : Int32) &&& 31).toUInt32).toInt32).toInt8.toInt32)), (.int (0 : Int32)), (.int (0 : Int32)), (.int (0 : Int32)), (.int (0 : Int32)), (.int (0 : Int32)), (.int (0 : Int32)), (.int (0 : Int32)), (.int (0 : Int32)), (.int (0 : Int32)), (.int (0 : Int32)), (.int (0 : Int32)), (.int (0 : Int32)), (.int (0 : Int32)), (.int (0 : Int32)), (.int (0 : Int32)), (.int (0 : Int32)), (.int (0 : Int32)), (.int (0 : Int32)), (.int (0 : Int32)), (.int (0 : Int32)), (.int (0 : Int32)), (.int (0 : Int32)), (.int (0 : Int32)), (.int (0 : Int32)), (.int (0 : Int32)), (.int (0 : Int32)), (.int (0 : Int32)), (.int (0 : Int32)), (.int (0 : Int32)), (.int (0 : Int32)), (.int (0 : Int32)), (.int (0 : Int32)), (.int (0 : Int32)), (.int (0 : Int32)), (.int (0 : Int32)), (.int (0 : Int32)), (.int (0 : Int32)), (.int (0 : Int32)), (.int (0 : Int32)), (.int (0 : Int32)), (.int (0 : Int32)), (.int (0 : Int32)), (.int (0 : Int32)), (.int (0 : Int32)), (.int (0 : Int32)), (.int (0 : Int32)), (.int (0 : Int32)), (.int (0 : Int32))] p4 p5 T2.heap n0 Z2 p2_7 p2_8 p2_9 pv2_10 p2_3 g_b1 g_b_2 ne_b1_b_2 (by decide) (by decide) rfl) (by rw [hml]; rfl) rfl [(.int p4), (.int p5)] rfl rfl (W := 0) (Nat.le_of_eq rfl) (by decide) (by decide) (by decide) (by decide) (lenOf pd_8 rfl) (hb hby at_19) rfl fun v3 T3 L3 X3 hQ3 => ?_
  obtain ⟨rfl, Nq3, kc3, p3_0, p3_1, p3_2, p3_3, p3_4⟩ := hQ3
  have N3 := Fr.app N2 Nq3
  have Z3 : n0 ≤ T3.heap.size := Nat.le_trans Z2 kc3.1
  have pv3_1 : Fld Z T3.heap b1 "com/example/glowworm/glowworm/NetlinkWriter" "length" "I" (.int (20 : Int32)) := p3_1
  have pv3_4 : Arv Z T3.heap b_2 ka_2 .byte (64 : Int32) [(.int (0 : Int32)), (.int (0 : Int32)), (.int (0 : Int32)), (.int (0 : Int32)), (.int (p0.toInt8.toInt32)), (.int (((p0.toUInt32 >>> ((8 : Int32) &&& 31).toUInt32).toInt32).toInt8.toInt32)), (.int (p1.toInt8.toInt32)), (.int (((p1.toUInt32 >>> ((8 : Int32) &&& 31).toUInt32).toInt32).toInt8.toInt32)), (.int (p2.toInt8.toInt32)), (.int (((p2.toUInt32 >>> ((8 : Int32) &&& 31).toUInt32).toInt32).toInt8.toInt32)), (.int (((p2.toUInt32 >>> ((16 : Int32) &&& 31).toUInt32).toInt32).toInt8.toInt32)), (.int (((((p2.toUInt32 >>> ((16 : Int32) &&& 31).toUInt32).toInt32).toUInt32 >>> ((8 : Int32) &&& 31).toUInt32).toInt32).toInt8.toInt32)), (.int (p3.toInt8.toInt32)), (.int (((p3.toUInt32 >>> ((8 : Int32) &&& 31).toUInt32).toInt32).toInt8.toInt32)), (.int (((p3.toUInt32 >>> ((16 : Int32) &&& 31).toUInt32).toInt32).toInt8.toInt32)), (.int (((((p3.toUInt32 >>> ((16 : Int32) &&& 31).toUInt32).toInt32).toUInt32 >>> ((8 : Int32) &&& 31).toUInt32).toInt32).toInt8.toInt32)), (.int (p4.toInt8.toInt32)), (.int (p5.toInt8.toInt32)), (.int (0 : Int32)), (.int (0 : Int32)), (.int (0 : Int32)), (.int (0 : Int32)), (.int (0 : Int32)), (.int (0 : Int32)), (.int (0 : Int32)), (.int (0 : Int32)), (.int (0 : Int32)), (.int (0 : Int32)), (.int (0 : Int32)), (.int (0 : Int32)), (.int (0 : Int32)), (.int (0 : Int32)), (.int (0 : Int32)), (.int (0 : Int32)), (.int (0 : Int32)), (.int (0 : Int32)), (.int (0 : Int32)), (.int (0 : Int32)), (.int (0 : Int32)), (.int (0 : Int32)), (.int (0 : Int32)), (.int (0 : Int32)), (.int (0 : Int32)), (.int (0 : Int32)), (.int (0 : Int32)), (.int (0 : Int32)), (.int (0 : Int32)), (.int (0 : Int32)), (.int (0 : Int32)), (.int (0 : Int32)), (.int (0 : Int32)), (.int (0 : Int32)), (.int (0 : Int32)), (.int (0 : Int32)), (.int (0 : Int32)), (.int (0 : Int32)), (.int (0 : Int32)), (.int (0 : Int32)), (.int (0 : Int32)), (.int (0 : Int32)), (.int (0 : Int32)), (.int (0 : Int32)), (.int (0 : Int32)), (.int (0 : Int32))] (.int (0 : Int32)) := p3_4
  show Ga _ _ _ _ _ _ _ _ _ _ _ [(.ref b1)]
  refine g_astore X3 hx (Ls' := #[.val (.int p0), .val (.int p1), .val (.int p2), .val (.int p3), .val (.int p4), .val (.int p5), .val (.ref b1), .val (.ref b1), .unset]) (hb hby at_22) rfl rfl rfl ?_
  refine g_aload X3 hx (hb hby at_24) rfl rfl rfl ?_
  refine g_aload X3 hx (hb hby at_26) rfl rfl rfl ?_
  refine g_acmp X3 hx (q := 33) (same := true) (hb hby at_28) rfl rfl (decide_eq_true rfl) (by decide) (by decide) ?_
  refine g_aload X3 hx (hb hby at_33) rfl rfl rfl ?_
  have f5 : Exa Z T3.heap dq_2 "java/util/ArrayDeque" := (p2_4.keep kc3)
  have f6 : Fld Z T3.heap dq_2 "java/util/ArrayDeque" "head" "I" (.int (0 : Int32)) := (p2_5.keep kc3 (ninS (Ne.symm ne_b1_dq_2) (ninS (Ne.symm p2_2) nin0)))
  have f7 : Fld Z T3.heap dq_2 "java/util/ArrayDeque" "tail" "I" (.int (0 : Int32)) := (p2_6.keep kc3 (ninS (Ne.symm ne_b1_dq_2) (ninS (Ne.symm p2_2) nin0)))
  refine g_virtual X3 hx hZ hown (hw _ (List.mem_of_getElem? (i := 50) rfl)) (hw _ (List.mem_of_getElem? (i := 51) rfl)) (notFace_of_selects (args := #[]) (mvT hZ (hw _ (List.mem_of_getElem? (i := 53) rfl)))) (hw _ (List.mem_of_getElem? (i := 53) rfl)) (hw _ (List.mem_of_getElem? (i := 52) rfl)) (hw _ (List.mem_of_getElem? (i := 2) rfl)) (hw _ (List.mem_of_getElem? (i := 54) rfl)) (by decide) (a := b1) p3_0 (rm_tobytes l Z a0 hw b1 b_2 dq_2 ka_2 [(.int (0 : Int32)), (.int (0 : Int32)), (.int (0 : Int32)), (.int (0 : Int32)), (.int (p0.toInt8.toInt32)), (.int (((p0.toUInt32 >>> ((8 : Int32) &&& 31).toUInt32).toInt32).toInt8.toInt32)), (.int (p1.toInt8.toInt32)), (.int (((p1.toUInt32 >>> ((8 : Int32) &&& 31).toUInt32).toInt32).toInt8.toInt32)), (.int (p2.toInt8.toInt32)), (.int (((p2.toUInt32 >>> ((8 : Int32) &&& 31).toUInt32).toInt32).toInt8.toInt32)), (.int (((p2.toUInt32 >>> ((16 : Int32) &&& 31).toUInt32).toInt32).toInt8.toInt32)), (.int (((((p2.toUInt32 >>> ((16 : Int32) &&& 31).toUInt32).toInt32).toUInt32 >>> ((8 : Int32) &&& 31).toUInt32).toInt32).toInt8.toInt32)), (.int (p3.toInt8.toInt32)), (.int (((p3.toUInt32 >>> ((8 : Int32) &&& 31).toUInt32).toInt32).toInt8.toInt32)), (.int (((p3.toUInt32 >>> ((16 : Int32) &&& 31).toUInt32).toInt32).toInt8.toInt32)), (.int (((((p3.toUInt32 >>> ((16 : Int32) &&& 31).toUInt32).toInt32).toUInt32 >>> ((8 : Int32) &&& 31).toUInt32).toInt32).toInt8.toInt32)), (.int (p4.toInt8.toInt32)), (.int (p5.toInt8.toInt32)), (.int (0 : Int32)), (.int (0 : Int32)), (.int (0 : Int32)), (.int (0 : Int32)), (.int (0 : Int32)), (.int (0 : Int32)), (.int (0 : Int32)), (.int (0 : Int32)), (.int (0 : Int32)), (.int (0 : Int32)), (.int (0 : Int32)), (.int (0 : Int32)), (.int (0 : Int32)), (.int (0 : Int32)), (.int (0 : Int32)), (.int (0 : Int32)), (.int (0 : Int32)), (.int (0 : Int32)), (.int (0 : Int32)), (.int (0 : Int32)), (.int (0 : Int32)), (.int (0 : Int32)), (.int (0 : Int32)), (.int (0 : Int32)), (.int (0 : Int32)), (.int (0 : Int32)), (.int (0 : Int32)), (.int (0 : Int32)), (.int (0 : Int32)), (.int (0 : Int32)), (.int (0 : Int32)), (.int (0 : Int32)), (.int (0 : Int32)), (.int (0 : Int32)), (.int (0 : Int32)), (.int (0 : Int32)), (.int (0 : Int32)), (.int (0 : Int32)), (.int (0 : Int32)), (.int (0 : Int32)), (.int (0 : Int32)), (.int (0 : Int32)), (.int (0 : Int32)), (.int (0 : Int32)), (.int (0 : Int32)), (.int (0 : Int32))] T3.heap n0 Z3 pv3_1 p3_2 p3_3 pv3_4 p3_0 g_b_2 ne_b1_b_2 f5 f6 f7 rfl) (by rw [hml]; rfl) rfl [] rfl rfl (W := 0) (Nat.le_of_eq rfl) (by decide) (by decide) (by decide) (by decide) (lenOf pd_9 rfl) (hb hby at_35) rfl fun v4 T4 L4 X4 hQ4 => ?_
  obtain ⟨d_4, kd_4, rfl, Nq4, kc4, p4_0, p4_1⟩ := hQ4
  have N4 := Fr.app N3 Nq4
  have ne_b1_d_4 : b1 ≠ d_4 := own_neK p3_0.lt p4_0
  have ne_b_2_d_4 : b_2 ≠ d_4 := own_neK pv3_4.lt p4_0
  have ne_dq_2_d_4 : dq_2 ≠ d_4 := own_neK f5.lt p4_0
  have g_d_4 : n0 ≤ d_4 := Nat.le_trans Z3 p4_0
  have Z4 : n0 ≤ T4.heap.size := Nat.le_trans Z3 kc4.1
  have pv4_1 : Arv Z T4.heap d_4 kd_4 .byte (20 : Int32) [(.int (20 : Int32)), (.int (0 : Int32)), (.int (0 : Int32)), (.int (0 : Int32)), (.int (p0.toInt8.toInt32)), (.int (((p0.toUInt32 >>> ((8 : Int32) &&& 31).toUInt32).toInt32).toInt8.toInt32)), (.int (p1.toInt8.toInt32)), (.int (((p1.toUInt32 >>> ((8 : Int32) &&& 31).toUInt32).toInt32).toInt8.toInt32)), (.int (p2.toInt8.toInt32)), (.int (((p2.toUInt32 >>> ((8 : Int32) &&& 31).toUInt32).toInt32).toInt8.toInt32)), (.int (((p2.toUInt32 >>> ((16 : Int32) &&& 31).toUInt32).toInt32).toInt8.toInt32)), (.int (((((p2.toUInt32 >>> ((16 : Int32) &&& 31).toUInt32).toInt32).toUInt32 >>> ((8 : Int32) &&& 31).toUInt32).toInt32).toInt8.toInt32)), (.int (p3.toInt8.toInt32)), (.int (((p3.toUInt32 >>> ((8 : Int32) &&& 31).toUInt32).toInt32).toInt8.toInt32)), (.int (((p3.toUInt32 >>> ((16 : Int32) &&& 31).toUInt32).toInt32).toInt8.toInt32)), (.int (((((p3.toUInt32 >>> ((16 : Int32) &&& 31).toUInt32).toInt32).toUInt32 >>> ((8 : Int32) &&& 31).toUInt32).toInt32).toInt8.toInt32)), (.int (p4.toInt8.toInt32)), (.int (p5.toInt8.toInt32)), (.int (0 : Int32)), (.int (0 : Int32))] (.int (0 : Int32)) := p4_1
  show Ga _ _ _ _ _ _ _ _ _ _ _ [(.ref d_4)]
  refine g_astore X4 hx (Ls' := #[.val (.int p0), .val (.int p1), .val (.int p2), .val (.int p3), .val (.int p4), .val (.int p5), .val (.ref b1), .val (.ref b1), .val (.ref d_4)]) (hb hby at_38) rfl rfl rfl ?_
  refine g_aload X4 hx (hb hby at_40) rfl rfl rfl ?_
  refine g_len X4 hx hZ rfl pv4_1 (hb hby at_42) rfl ?_
  refine g_bipush X4 hx (r := (20 : Int32)) (hb hby at_43) rfl rfl ?_
  refine g_icmpY X4 hx (q := 50) (hb hby at_45) (XT.ii_eq_t (by decide : (20 : Int32) = (20 : Int32))) (by decide) (by decide) ?_
  refine g_aload X4 hx (hb hby at_50) rfl rfl rfl ?_
  refine g_iconst X4 hx (r := (0 : Int32)) (hb hby at_52) rfl rfl ?_
  refine g_bipush X4 hx (r := (20 : Int32)) (hb hby at_53) rfl rfl ?_
  refine g_static X4 hx hZ hown (hw _ (List.mem_of_getElem? (i := 84) rfl)) (hw _ (List.mem_of_getElem? (i := 85) rfl)) (hw _ (List.mem_of_getElem? (i := 86) rfl)) (hw _ (List.mem_of_getElem? (i := 87) rfl)) (by decide) (rm_u32_0 l Z a0 hw d_4 kd_4 (20 : Int32) (20 : Int32) (0 : Int32) (0 : Int32) (0 : Int32) (p0.toInt8.toInt32) (((p0.toUInt32 >>> ((8 : Int32) &&& 31).toUInt32).toInt32).toInt8.toInt32) (p1.toInt8.toInt32) (((p1.toUInt32 >>> ((8 : Int32) &&& 31).toUInt32).toInt32).toInt8.toInt32) (p2.toInt8.toInt32) (((p2.toUInt32 >>> ((8 : Int32) &&& 31).toUInt32).toInt32).toInt8.toInt32) (((p2.toUInt32 >>> ((16 : Int32) &&& 31).toUInt32).toInt32).toInt8.toInt32) (((((p2.toUInt32 >>> ((16 : Int32) &&& 31).toUInt32).toInt32).toUInt32 >>> ((8 : Int32) &&& 31).toUInt32).toInt32).toInt8.toInt32) (p3.toInt8.toInt32) (((p3.toUInt32 >>> ((8 : Int32) &&& 31).toUInt32).toInt32).toInt8.toInt32) (((p3.toUInt32 >>> ((16 : Int32) &&& 31).toUInt32).toInt32).toInt8.toInt32) (((((p3.toUInt32 >>> ((16 : Int32) &&& 31).toUInt32).toInt32).toUInt32 >>> ((8 : Int32) &&& 31).toUInt32).toInt32).toInt8.toInt32) (p4.toInt8.toInt32) (p5.toInt8.toInt32) (0 : Int32) (0 : Int32) T4.heap n0 Z4 pv4_1 (by decide)) (by rw [hml]; rfl) rfl [(.ref d_4), (.int (0 : Int32)), (.int (20 : Int32))] rfl rfl (W := 0) (Nat.le_of_eq rfl) (by decide) (by decide) (by decide) (by decide) (lenOf pd_10 rfl) (hb hby at_55) rfl fun v8 T8 L8 X8 hQ8 => ?_
  obtain ⟨rfl, Nq8, eh8⟩ := hQ8
  have N8 := Fr.app N4 Nq8
  show Ga _ _ _ _ _ _ _ _ _ _ _ [(.int (1 : Int32))]
  refine g_ifY X8 hx (q := 63) (hb hby at_58) (XT.i0_ne_t (by decide : ¬ (1 : Int32) = (0 : Int32))) (by decide) (by decide) ?_
  refine g_aload X8 hx (hb hby at_63) rfl rfl rfl ?_
  refine g_iconst X8 hx (r := (4 : Int32)) (hb hby at_65) rfl rfl ?_
  refine g_iloadN X8 hx (hb hby at_66) rfl rfl ?_
  refine g_static X8 hx hZ hown (hw _ (List.mem_of_getElem? (i := 92) rfl)) (hw _ (List.mem_of_getElem? (i := 93) rfl)) (hw _ (List.mem_of_getElem? (i := 86) rfl)) (hw _ (List.mem_of_getElem? (i := 94) rfl)) (by decide) (rm_u16_4 l Z a0 hw d_4 kd_4 p0 (20 : Int32) (0 : Int32) (0 : Int32) (0 : Int32) (p0.toInt8.toInt32) (((p0.toUInt32 >>> ((8 : Int32) &&& 31).toUInt32).toInt32).toInt8.toInt32) (p1.toInt8.toInt32) (((p1.toUInt32 >>> ((8 : Int32) &&& 31).toUInt32).toInt32).toInt8.toInt32) (p2.toInt8.toInt32) (((p2.toUInt32 >>> ((8 : Int32) &&& 31).toUInt32).toInt32).toInt8.toInt32) (((p2.toUInt32 >>> ((16 : Int32) &&& 31).toUInt32).toInt32).toInt8.toInt32) (((((p2.toUInt32 >>> ((16 : Int32) &&& 31).toUInt32).toInt32).toUInt32 >>> ((8 : Int32) &&& 31).toUInt32).toInt32).toInt8.toInt32) (p3.toInt8.toInt32) (((p3.toUInt32 >>> ((8 : Int32) &&& 31).toUInt32).toInt32).toInt8.toInt32) (((p3.toUInt32 >>> ((16 : Int32) &&& 31).toUInt32).toInt32).toInt8.toInt32) (((((p3.toUInt32 >>> ((16 : Int32) &&& 31).toUInt32).toInt32).toUInt32 >>> ((8 : Int32) &&& 31).toUInt32).toInt32).toInt8.toInt32) (p4.toInt8.toInt32) (p5.toInt8.toInt32) (0 : Int32) (0 : Int32) T4.heap n0 Z4 pv4_1 (own_u16 _)) (by rw [hml]; rfl) eh8 [(.ref d_4), (.int (4 : Int32)), (.int p0)] rfl rfl (W := 0) (Nat.le_of_eq rfl) (by decide) (by decide) (by decide) (by decide) (lenOf pd_10 rfl) (hb hby at_67) rfl fun v9 T9 L9 X9 hQ9 => ?_
  obtain ⟨rfl, Nq9, eh9⟩ := hQ9
  have N9 := Fr.app N8 Nq9
  show Ga _ _ _ _ _ _ _ _ _ _ _ [(.int (1 : Int32))]
  refine g_ifY X9 hx (q := 75) (hb hby at_70) (XT.i0_ne_t (by decide : ¬ (1 : Int32) = (0 : Int32))) (by decide) (by decide) ?_
  refine g_aload X9 hx (hb hby at_75) rfl rfl rfl ?_
  refine g_bipush X9 hx (r := (6 : Int32)) (hb hby at_77) rfl rfl ?_
  refine g_iloadN X9 hx (hb hby at_79) rfl rfl ?_
  refine g_static X9 hx hZ hown (hw _ (List.mem_of_getElem? (i := 92) rfl)) (hw _ (List.mem_of_getElem? (i := 93) rfl)) (hw _ (List.mem_of_getElem? (i := 86) rfl)) (hw _ (List.mem_of_getElem? (i := 94) rfl)) (by decide) (rm_u16_6 l Z a0 hw d_4 kd_4 p1 (20 : Int32) (0 : Int32) (0 : Int32) (0 : Int32) (p0.toInt8.toInt32) (((p0.toUInt32 >>> ((8 : Int32) &&& 31).toUInt32).toInt32).toInt8.toInt32) (p1.toInt8.toInt32) (((p1.toUInt32 >>> ((8 : Int32) &&& 31).toUInt32).toInt32).toInt8.toInt32) (p2.toInt8.toInt32) (((p2.toUInt32 >>> ((8 : Int32) &&& 31).toUInt32).toInt32).toInt8.toInt32) (((p2.toUInt32 >>> ((16 : Int32) &&& 31).toUInt32).toInt32).toInt8.toInt32) (((((p2.toUInt32 >>> ((16 : Int32) &&& 31).toUInt32).toInt32).toUInt32 >>> ((8 : Int32) &&& 31).toUInt32).toInt32).toInt8.toInt32) (p3.toInt8.toInt32) (((p3.toUInt32 >>> ((8 : Int32) &&& 31).toUInt32).toInt32).toInt8.toInt32) (((p3.toUInt32 >>> ((16 : Int32) &&& 31).toUInt32).toInt32).toInt8.toInt32) (((((p3.toUInt32 >>> ((16 : Int32) &&& 31).toUInt32).toInt32).toUInt32 >>> ((8 : Int32) &&& 31).toUInt32).toInt32).toInt8.toInt32) (p4.toInt8.toInt32) (p5.toInt8.toInt32) (0 : Int32) (0 : Int32) T4.heap n0 Z4 pv4_1 (own_u16 _)) (by rw [hml]; rfl) eh9 [(.ref d_4), (.int (6 : Int32)), (.int p1)] rfl rfl (W := 0) (Nat.le_of_eq rfl) (by decide) (by decide) (by decide) (by decide) (lenOf pd_10 rfl) (hb hby at_80) rfl fun v10 T10 L10 X10 hQ10 => ?_
  obtain ⟨rfl, Nq10, eh10⟩ := hQ10
  have N10 := Fr.app N9 Nq10
  show Ga _ _ _ _ _ _ _ _ _ _ _ [(.int (1 : Int32))]
  refine g_ifY X10 hx (q := 88) (hb hby at_83) (XT.i0_ne_t (by decide : ¬ (1 : Int32) = (0 : Int32))) (by decide) (by decide) ?_
  refine g_aload X10 hx (hb hby at_88) rfl rfl rfl ?_
  refine g_bipush X10 hx (r := (8 : Int32)) (hb hby at_90) rfl rfl ?_
  refine g_iloadN X10 hx (hb hby at_92) rfl rfl ?_
  refine g_static X10 hx hZ hown (hw _ (List.mem_of_getElem? (i := 84) rfl)) (hw _ (List.mem_of_getElem? (i := 85) rfl)) (hw _ (List.mem_of_getElem? (i := 86) rfl)) (hw _ (List.mem_of_getElem? (i := 87) rfl)) (by decide) (rm_u32_8 l Z a0 hw d_4 kd_4 p2 (20 : Int32) (0 : Int32) (0 : Int32) (0 : Int32) (p0.toInt8.toInt32) (((p0.toUInt32 >>> ((8 : Int32) &&& 31).toUInt32).toInt32).toInt8.toInt32) (p1.toInt8.toInt32) (((p1.toUInt32 >>> ((8 : Int32) &&& 31).toUInt32).toInt32).toInt8.toInt32) (p2.toInt8.toInt32) (((p2.toUInt32 >>> ((8 : Int32) &&& 31).toUInt32).toInt32).toInt8.toInt32) (((p2.toUInt32 >>> ((16 : Int32) &&& 31).toUInt32).toInt32).toInt8.toInt32) (((((p2.toUInt32 >>> ((16 : Int32) &&& 31).toUInt32).toInt32).toUInt32 >>> ((8 : Int32) &&& 31).toUInt32).toInt32).toInt8.toInt32) (p3.toInt8.toInt32) (((p3.toUInt32 >>> ((8 : Int32) &&& 31).toUInt32).toInt32).toInt8.toInt32) (((p3.toUInt32 >>> ((16 : Int32) &&& 31).toUInt32).toInt32).toInt8.toInt32) (((((p3.toUInt32 >>> ((16 : Int32) &&& 31).toUInt32).toInt32).toUInt32 >>> ((8 : Int32) &&& 31).toUInt32).toInt32).toInt8.toInt32) (p4.toInt8.toInt32) (p5.toInt8.toInt32) (0 : Int32) (0 : Int32) T4.heap n0 Z4 pv4_1 (own_u32 _)) (by rw [hml]; rfl) eh10 [(.ref d_4), (.int (8 : Int32)), (.int p2)] rfl rfl (W := 0) (Nat.le_of_eq rfl) (by decide) (by decide) (by decide) (by decide) (lenOf pd_10 rfl) (hb hby at_93) rfl fun v11 T11 L11 X11 hQ11 => ?_
  obtain ⟨rfl, Nq11, eh11⟩ := hQ11
  have N11 := Fr.app N10 Nq11
  show Ga _ _ _ _ _ _ _ _ _ _ _ [(.int (1 : Int32))]
  refine g_ifY X11 hx (q := 101) (hb hby at_96) (XT.i0_ne_t (by decide : ¬ (1 : Int32) = (0 : Int32))) (by decide) (by decide) ?_
  refine g_aload X11 hx (hb hby at_101) rfl rfl rfl ?_
  refine g_bipush X11 hx (r := (12 : Int32)) (hb hby at_103) rfl rfl ?_
  refine g_iloadN X11 hx (hb hby at_105) rfl rfl ?_
  refine g_static X11 hx hZ hown (hw _ (List.mem_of_getElem? (i := 84) rfl)) (hw _ (List.mem_of_getElem? (i := 85) rfl)) (hw _ (List.mem_of_getElem? (i := 86) rfl)) (hw _ (List.mem_of_getElem? (i := 87) rfl)) (by decide) (rm_u32_12 l Z a0 hw d_4 kd_4 p3 (20 : Int32) (0 : Int32) (0 : Int32) (0 : Int32) (p0.toInt8.toInt32) (((p0.toUInt32 >>> ((8 : Int32) &&& 31).toUInt32).toInt32).toInt8.toInt32) (p1.toInt8.toInt32) (((p1.toUInt32 >>> ((8 : Int32) &&& 31).toUInt32).toInt32).toInt8.toInt32) (p2.toInt8.toInt32) (((p2.toUInt32 >>> ((8 : Int32) &&& 31).toUInt32).toInt32).toInt8.toInt32) (((p2.toUInt32 >>> ((16 : Int32) &&& 31).toUInt32).toInt32).toInt8.toInt32) (((((p2.toUInt32 >>> ((16 : Int32) &&& 31).toUInt32).toInt32).toUInt32 >>> ((8 : Int32) &&& 31).toUInt32).toInt32).toInt8.toInt32) (p3.toInt8.toInt32) (((p3.toUInt32 >>> ((8 : Int32) &&& 31).toUInt32).toInt32).toInt8.toInt32) (((p3.toUInt32 >>> ((16 : Int32) &&& 31).toUInt32).toInt32).toInt8.toInt32) (((((p3.toUInt32 >>> ((16 : Int32) &&& 31).toUInt32).toInt32).toUInt32 >>> ((8 : Int32) &&& 31).toUInt32).toInt32).toInt8.toInt32) (p4.toInt8.toInt32) (p5.toInt8.toInt32) (0 : Int32) (0 : Int32) T4.heap n0 Z4 pv4_1 (own_u32 _)) (by rw [hml]; rfl) eh11 [(.ref d_4), (.int (12 : Int32)), (.int p3)] rfl rfl (W := 0) (Nat.le_of_eq rfl) (by decide) (by decide) (by decide) (by decide) (lenOf pd_10 rfl) (hb hby at_106) rfl fun v12 T12 L12 X12 hQ12 => ?_
  obtain ⟨rfl, Nq12, eh12⟩ := hQ12
  have N12 := Fr.app N11 Nq12
  show Ga _ _ _ _ _ _ _ _ _ _ _ [(.int (1 : Int32))]
  refine g_ifY X12 hx (q := 114) (hb hby at_109) (XT.i0_ne_t (by decide : ¬ (1 : Int32) = (0 : Int32))) (by decide) (by decide) ?_
  refine g_aload X12 hx (hb hby at_114) rfl rfl rfl ?_
  refine g_bipush X12 hx (r := (16 : Int32)) (hb hby at_116) rfl rfl ?_
  refine g_baload X12 hx hZ eh12 pv4_1 (v := (.int (p4.toInt8.toInt32))) ⟨by decide, by decide⟩ rfl (hb hby at_118) rfl ?_
  refine g_sipush X12 hx (r := (255 : Int32)) (hb hby at_119) rfl rfl ?_
  refine g_iand X12 hx (hb hby at_122) rfl rfl ?_
  refine g_iload X12 hx (hb hby at_123) rfl rfl ?_
  refine g_sipush X12 hx (r := (255 : Int32)) (hb hby at_125) rfl rfl ?_
  refine g_iand X12 hx (hb hby at_128) rfl rfl ?_
  have hc129 : ((p4.toInt8.toInt32) &&& (255 : Int32)) = (p4 &&& (255 : Int32)) := own_b8 _
  refine g_icmpY X12 hx (q := 134) (hb hby at_129) (XT.ii_eq_t hc129) (by decide) (by decide) ?_
  refine g_aload X12 hx (hb hby at_134) rfl rfl rfl ?_
  refine g_bipush X12 hx (r := (17 : Int32)) (hb hby at_136) rfl rfl ?_
  refine g_baload X12 hx hZ eh12 pv4_1 (v := (.int (p5.toInt8.toInt32))) ⟨by decide, by decide⟩ rfl (hb hby at_138) rfl ?_
  refine g_sipush X12 hx (r := (255 : Int32)) (hb hby at_139) rfl rfl ?_
  refine g_iand X12 hx (hb hby at_142) rfl rfl ?_
  refine g_iload X12 hx (hb hby at_143) rfl rfl ?_
  refine g_sipush X12 hx (r := (255 : Int32)) (hb hby at_145) rfl rfl ?_
  refine g_iand X12 hx (hb hby at_148) rfl rfl ?_
  have hc149 : ((p5.toInt8.toInt32) &&& (255 : Int32)) = (p5 &&& (255 : Int32)) := own_b8 _
  refine g_icmpY X12 hx (q := 154) (hb hby at_149) (XT.ii_eq_t hc149) (by decide) (by decide) ?_
  refine g_aload X12 hx (hb hby at_154) rfl rfl rfl ?_
  refine g_bipush X12 hx (r := (18 : Int32)) (hb hby at_156) rfl rfl ?_
  refine g_baload X12 hx hZ eh12 pv4_1 (v := (.int (0 : Int32))) ⟨by decide, by decide⟩ rfl (hb hby at_158) rfl ?_
  refine g_ifN X12 hx (hb hby at_159) rfl (XT.i0_ne_f (by decide : (0 : Int32) = (0 : Int32))) ?_
  refine g_aload X12 hx (hb hby at_162) rfl rfl rfl ?_
  refine g_bipush X12 hx (r := (19 : Int32)) (hb hby at_164) rfl rfl ?_
  refine g_baload X12 hx hZ eh12 pv4_1 (v := (.int (0 : Int32))) ⟨by decide, by decide⟩ rfl (hb hby at_166) rfl ?_
  refine g_ifN X12 hx (hb hby at_167) rfl (XT.i0_ne_f (by decide : (0 : Int32) = (0 : Int32))) ?_
  refine g_iconst X12 hx (r := (1 : Int32)) (hb hby at_170) rfl rfl ?_
  refine g_goto X12 hx (q := 175) (hb hby at_171) (by decide) (by decide) ?_
  exact g_retN X12 hx (t := .boolean) (r := (1 : Int32)) hret (by simp) hlk (hb hby at_175) rfl (by decide) (by decide) (by rw [eh12]; exact ⟨rfl, N12⟩)
set_option maxRecDepth 65536 in
set_option maxHeartbeats 40000000 in
theorem comes_1 {Post : Tables → Env → Array Value → State → Outcome → State → Prop} (hpost : ∀ tb e args s v u, (limb_1_1.after args s (.returned v) u = true ∧ limb_1_2.after args s (.returned v) u = true ∧ True) → FrameEnd s (.returned v) u (Jvm.fieldLocs frame_1_writes args s ++ Jvm.arrayLocs frame_1_arrays args s ++ Jvm.staticLocs frame_1_statics s) 24 320 → Post tb e args s (.returned v) u) :
    ArmFor flags0 classFile x code maxLocals ret World_1 tables_1 room_1 Calls_1 rest_1 Pre_1 Post := by
  intro l hfl _ _ p e ha hc hk s m args below hf hA hF happ hP
  obtain ⟨hcalls, hrest, hpre⟩ := hP
  obtain ⟨-, -, -, hnamed, -, -, -, hat⟩ := (Spec.applies_iff hf).mp happ
  obtain ⟨hg, hn⟩ := and_e (Cond.before_iff.mp (show (Jvm.Cond.and given_1 narrow_1).before args s = true from hpre))
  obtain ⟨hcn, hg1⟩ := and_e hg
  obtain ⟨k1, hg2⟩ := and_e hg1
  obtain ⟨k2, hg3⟩ := and_e hg2
  obtain ⟨k3, hg4⟩ := and_e hg3
  obtain ⟨k4, hg5⟩ := and_e hg4
  obtain ⟨k5, hg6⟩ := and_e hg5
  have k6 := hg6
  obtain ⟨w0, w1, w2, w3, w4, w5, rfl⟩ : ∃ w0 w1 w2 w3 w4 w5 : Value, args = #[w0, w1, w2, w3, w4, w5] := by
    have hs : args.size = 6 := by simpa [Cond.value, given_1] using hcn
    obtain ⟨L⟩ := args
    match L, hs with
    | [w0, w1, w2, w3, w4, w5], _ => exact ⟨w0, w1, w2, w3, w4, w5, rfl⟩
  have hw := fun d (hd : d ∈ tables_1) => atoms_spec (ws := Jvm.Cond.code x code maxLocals ret :: tables_1) hat d (List.mem_cons_of_mem _ hd)
  have hfit : Fit s := fun {y c} hc i hi => by
    obtain ⟨ha, rfl⟩ := Array.getElem?_eq_some_iff.mp hc
    have q := List.all_eq_true.mp ((Array.all_eq_true_iff_forall_mem.mp hF) _ (Array.getElem_mem ha)) i (List.mem_range.mpr hi)
    simpa [Array.getElem?_eq_getElem hi] using q
  obtain ⟨i0, ei0⟩ := is_v k1
  obtain rfl : w0 = (.int i0) := Option.some.inj ei0
  obtain ⟨i1, ei1⟩ := is_v k2
  obtain rfl : w1 = (.int i1) := Option.some.inj ei1
  obtain ⟨i2, ei2⟩ := is_v k3
  obtain rfl : w2 = (.int i2) := Option.some.inj ei2
  obtain ⟨i3, ei3⟩ := is_v k4
  obtain rfl : w3 = (.int i3) := Option.some.inj ei3
  obtain ⟨i4, ei4⟩ := is_v k5
  obtain rfl : w4 = (.int i4) := Option.some.inj ei4
  obtain ⟨i5, ei5⟩ := is_v k6
  obtain rfl : w5 = (.int i5) := Option.some.inj ei5
  obtain ⟨n, o, h1, h2, h3, _, L, rfl, ⟨rfl, N⟩, hq⟩ := rm_law l s _ hw tables_1 i0 i1 i2 i3 i4 i5 s.heap s.heap.size (Nat.le_refl _) p e ha hc hk s m _ below hf ((Spec.applies_iff_loose hf).mp happ).1 ⟨rfl, State.Warmed39.refl s, rfl⟩ trivial
  refine ⟨n, _, h1, h2, h3, hpost _ _ _ _ _ _ ⟨Cond.after_iff.mpr rfl, Cond.after_iff.mpr (eq_i res_at (Term.int_eval (1)) rfl), trivial⟩ ⟨hq.1, hq.2.1, (hq.2.2.sift fun y hy => Or.inr (N y hy)).mono (by decide) (by decide)⟩⟩
theorem main_1_1 : Claimed_1_1 := comes_1 fun _ _ _ _ _ _ h hF => ⟨h.1, hF⟩
theorem main_1_2 : Claimed_1_2 := comes_1 fun _ _ _ _ _ _ h hF => ⟨h.2.1, hF⟩
end Jvm.Pilot.@@N@@
namespace Jvm.Pilot.@@N@@
open Jvm Jvm.ClassFile Sem Op Lib Jvm.Free Jvm.Stand Jvm.Pilot.@@N@@.Jvm.D
/-! MADE BY PROGRAM (witnessworld.py) out of the Statement's table words and the real class files: 20 classes; the members and pool entries that the words name. The judged class is class 1, her method 3. -/
namespace start1
open Jvm.ClassFile
def u (s : String) : CpInfo := .utf8 (stringToUtf16 s)
/-- a pool by its gaps: so many unusable entries, then the entry; so many at the end -/
def gap : Nat → List CpInfo → List CpInfo
  | 0, r => r
  | n + 1, r => .unusable :: gap n r
def poolList (es : List (Nat × CpInfo)) (last : Nat) : List CpInfo := es.foldr (fun e r => gap e.1 (e.2 :: r)) (gap last [])
def pool (es : List (Nat × CpInfo)) (last : Nat) : Array CpInfo := ⟨poolList es last⟩
def fileOf (pool : Array CpInfo) (this : Nat) (attrs : Array Attribute := #[]) (ms : Array MethodInfo := #[]) (fl : Nat := 33) (sup : Nat := 0) (ifs : Array Nat := #[]) (fds : Array FieldInfo := #[]) : ClassFile where
  minorVersion := 0
  majorVersion := 65
  constantPool := pool
  accessFlags := fl
  thisClass := this
  superClass := sup
  interfaces := ifs
  fields := fds
  methods := ms
  attributes := attrs
def plain (name : String) (sup : Option ClassId) : Class where
  name := name
  kind := .ordinary
  loader := none
  accessFlags := 33
  super := sup
  interfaces := #[]
  cf := none
  fields := #[]
  methods := #[]
  instanceTypes := #[]
  staticTypes := #[]
  resolved := #[]
  callSites := []
  init := .initialized
  statics := none
  mirror := none

def pool0 : Array CpInfo := pool [(5, u "<init>"), (0, u "()V"), (1, .class_ 10), (1, u "java/lang/Object")] 113

def k0c0 : Code := { maxStack := 0, maxLocals := 1, code := object_method_1_code, exceptionTable := #[], attributes := #[] }
def k0m0 : Method := { name := "<init>", desc := "()V", sig := { parameters := [], returnType := none }, accessFlags := 1, code := some k0c0 }
/-- java/lang/Object -/
def k0 : Class := { plain "java/lang/Object" none with
  accessFlags := 33
  interfaces := #[]
  cf := some (fileOf pool0 8 #[] #[{ accessFlags := 1, nameIndex := 5, descriptorIndex := 6, attributes := #[] }] 33 0 #[] #[])
  fields := #[]
  methods := #[k0m0]
  instanceTypes := #[]
  staticTypes := #[]
  resolved := Array.replicate 124 none
  statics := none }

def pool1 : Array CpInfo := pool [(2, .class_ 4), (1, u "java/lang/Object"), (0, u "<init>"), (0, u "()V"), (0, .integer 65535), (0, .long 256), (1, .long 65536), (1, .long 16777216), (1, .long 4294967295), (1, .class_ 17), (0, u "com/example/glowworm/glowworm/NetlinkWriter"), (0, .methodref 16 19), (0, .nameAndType 5 20), (0, u "(IIII)V"), (0, .methodref 16 22), (0, .nameAndType 23 24), (0, u "genlHeader"), (0, u "(II)Lcom/example/glowworm/glowworm/NetlinkWriter;"), (0, .methodref 16 26), (0, .nameAndType 27 28), (0, u "toBytes"), (0, u "()[B"), (0, .methodref 30 31), (0, .class_ 32), (0, .nameAndType 33 34), (0, u "com/example/glowworm/glowworm/NetlinkWriterGenlHeaderPinLaw"), (0, u "u32At"), (0, u "([BII)Z"), (0, .methodref 30 36), (0, .nameAndType 37 34), (0, u "u16At"), (3, u "law"), (0, u "(IIIIII)Z")] 4

def k1m0 : Method := { name := "<init>", desc := "()V", sig := { parameters := [], returnType := none }, accessFlags := 2, code := none }
def k1c1 : Code := { maxStack := 4, maxLocals := 4, code := method_2_code, exceptionTable := #[], attributes := #[] }
def k1m1 : Method := { name := "u16At", desc := "([BII)Z", sig := { parameters := [(.array .byte), .int, .int], returnType := some .boolean }, accessFlags := 10, code := some k1c1 }
def k1c2 : Code := { maxStack := 7, maxLocals := 5, code := method_3_code, exceptionTable := #[], attributes := #[] }
def k1m2 : Method := { name := "u32At", desc := "([BII)Z", sig := { parameters := [(.array .byte), .int, .int], returnType := some .boolean }, accessFlags := 10, code := some k1c2 }
def k1c3 : Code := { maxStack := 6, maxLocals := 9, code := code, exceptionTable := #[], attributes := #[] }
def k1m3 : Method := { name := "law", desc := "(IIIIII)Z", sig := { parameters := [.int, .int, .int, .int, .int, .int], returnType := some .boolean }, accessFlags := 9, code := some k1c3 }
/-- com/example/glowworm/glowworm/NetlinkWriterGenlHeaderPinLaw -/
def k1 : Class := { plain "com/example/glowworm/glowworm/NetlinkWriterGenlHeaderPinLaw" (some 0) with
  accessFlags := 49
  interfaces := #[]
  cf := some (fileOf pool1 30 #[] #[{ accessFlags := 2, nameIndex := 5, descriptorIndex := 6, attributes := #[] }, { accessFlags := 10, nameIndex := 37, descriptorIndex := 34, attributes := #[] }, { accessFlags := 10, nameIndex := 33, descriptorIndex := 34, attributes := #[] }, { accessFlags := 9, nameIndex := 41, descriptorIndex := 42, attributes := #[] }] 49 2 #[] #[])
  fields := #[]
  methods := #[k1m0, k1m1, k1m2, k1m3]
  instanceTypes := #[]
  staticTypes := #[]
  resolved := Array.replicate 47 none
  statics := none }

def pool2 : Array CpInfo := pool [(1, .methodref 2 3), (0, .class_ 4), (0, .nameAndType 5 6), (0, u "java/lang/Object"), (0, u "<init>"), (0, u "()V"), (0, .fieldref 8 9), (0, .class_ 10), (0, .nameAndType 11 12), (0, u "com/example/glowworm/glowworm/NetlinkWriter"), (0, u "bytes"), (0, u "[B"), (0, .class_ 14), (0, u "java/util/ArrayDeque"), (0, .methodref 13 3), (0, .fieldref 8 17), (0, .nameAndType 18 19), (0, u "openNests"), (0, u "Ljava/util/Deque;"), (0, .methodref 8 21), (0, .nameAndType 22 23), (0, u "putU32"), (0, u "(I)V"), (0, .methodref 8 25), (0, .nameAndType 26 23), (0, u "putU16"), (0, .methodref 8 28), (0, .nameAndType 29 30), (0, u "put"), (0, u "(B)V"), (3, u "(II)V"), (20, .fieldref 8 56), (0, .nameAndType 57 58), (0, u "length"), (0, u "I"), (7, .class_ 68), (1, u "java/util/Deque"), (17, .methodref 8 87), (0, .nameAndType 88 34), (0, u "setU16"), (0, .interfaceMethodref 66 90), (0, .nameAndType 91 92), (0, u "isEmpty"), (0, u "()Z"), (12, .methodref 106 107), (0, .class_ 108), (0, .nameAndType 109 110), (0, u "java/util/Arrays"), (0, u "copyOf"), (0, u "([BI)[B"), (7, u "(IIII)V"), (2, u "genlHeader"), (0, u "(II)Lcom/example/glowworm/glowworm/NetlinkWriter;"), (13, u "toBytes"), (0, u "()[B")] 19

def k2c0 : Code := { maxStack := 3, maxLocals := 5, code := prog_15_method_1_code, exceptionTable := #[], attributes := #[] }
def k2m0 : Method := { name := "<init>", desc := "(IIII)V", sig := { parameters := [.int, .int, .int, .int], returnType := none }, accessFlags := 0, code := some k2c0 }
def k2c1 : Code := { maxStack := 2, maxLocals := 3, code := prog_15_method_2_code, exceptionTable := #[], attributes := #[] }
def k2m1 : Method := { name := "genlHeader", desc := "(II)Lcom/example/glowworm/glowworm/NetlinkWriter;", sig := { parameters := [.int, .int], returnType := some (.object "com/example/glowworm/glowworm/NetlinkWriter") }, accessFlags := 0, code := some k2c1 }
def k2c2 : Code := { maxStack := 4, maxLocals := 1, code := prog_15_method_12_code, exceptionTable := #[], attributes := #[] }
def k2m2 : Method := { name := "toBytes", desc := "()[B", sig := { parameters := [], returnType := some (.array .byte) }, accessFlags := 0, code := some k2c2 }
def k2c3 : Code := { maxStack := 3, maxLocals := 2, code := prog_15_method_16_code, exceptionTable := #[], attributes := #[] }
def k2m3 : Method := { name := "putU16", desc := "(I)V", sig := { parameters := [.int], returnType := none }, accessFlags := 2, code := some k2c3 }
def k2c4 : Code := { maxStack := 3, maxLocals := 2, code := prog_15_method_17_code, exceptionTable := #[], attributes := #[] }
def k2m4 : Method := { name := "putU32", desc := "(I)V", sig := { parameters := [.int], returnType := none }, accessFlags := 2, code := some k2c4 }
def k2c5 : Code := { maxStack := 4, maxLocals := 3, code := prog_15_method_18_code, exceptionTable := #[], attributes := #[] }
def k2m5 : Method := { name := "setU16", desc := "(II)V", sig := { parameters := [.int, .int], returnType := none }, accessFlags := 2, code := some k2c5 }
def k2c6 : Code := { maxStack := 5, maxLocals := 2, code := prog_15_method_19_code, exceptionTable := #[], attributes := #[] }
def k2m6 : Method := { name := "put", desc := "(B)V", sig := { parameters := [.byte], returnType := none }, accessFlags := 2, code := some k2c6 }
/-- com/example/glowworm/glowworm/NetlinkWriter -/
def k2 : Class := { plain "com/example/glowworm/glowworm/NetlinkWriter" (some 0) with
  accessFlags := 48
  interfaces := #[]
  cf := some (fileOf pool2 8 #[] #[{ accessFlags := 0, nameIndex := 5, descriptorIndex := 118, attributes := #[] }, { accessFlags := 0, nameIndex := 121, descriptorIndex := 122, attributes := #[] }, { accessFlags := 0, nameIndex := 136, descriptorIndex := 137, attributes := #[] }, { accessFlags := 2, nameIndex := 26, descriptorIndex := 23, attributes := #[] }, { accessFlags := 2, nameIndex := 22, descriptorIndex := 23, attributes := #[] }, { accessFlags := 2, nameIndex := 88, descriptorIndex := 34, attributes := #[] }, { accessFlags := 2, nameIndex := 29, descriptorIndex := 30, attributes := #[] }] 48 2 #[] #[{ accessFlags := 2, nameIndex := 11, descriptorIndex := 12, attributes := #[] }, { accessFlags := 2, nameIndex := 57, descriptorIndex := 58, attributes := #[] }, { accessFlags := 18, nameIndex := 18, descriptorIndex := 19, attributes := #[] }])
  fields := #[{ name := "bytes", type := (.array .byte), accessFlags := 2, slot := 0, constantValue := 0 }, { name := "length", type := .int, accessFlags := 2, slot := 1, constantValue := 0 }, { name := "openNests", type := (.object "java/util/Deque"), accessFlags := 18, slot := 2, constantValue := 0 }]
  methods := #[k2m0, k2m1, k2m2, k2m3, k2m4, k2m5, k2m6]
  instanceTypes := #[(.array .byte), .int, (.object "java/util/Deque")]
  staticTypes := #[]
  resolved := Array.replicate 157 none
  statics := none }

def pool3 : Array CpInfo := pool [(8, .class_ 10), (1, u "java/lang/Iterable"), (24, .class_ 36), (0, u "java/lang/Object")] 25

/-- java/lang/Iterable -/
def k3 : Class := { plain "java/lang/Iterable" (some 0) with
  accessFlags := 1537
  interfaces := #[]
  cf := some (fileOf pool3 8 #[] #[] 1537 35 #[] #[])
  fields := #[]
  methods := #[]
  instanceTypes := #[]
  staticTypes := #[]
  resolved := Array.replicate 62 none
  statics := none }

def pool4 : Array CpInfo := pool [(10, .class_ 12), (1, u "java/util/Collection"), (17, u "()Z"), (29, .class_ 61), (0, u "java/lang/Object"), (0, .class_ 63), (0, u "java/lang/Iterable"), (2, u "isEmpty")] 48

def k4m0 : Method := { name := "isEmpty", desc := "()Z", sig := { parameters := [], returnType := some .boolean }, accessFlags := 1025, code := none }
/-- java/util/Collection -/
def k4 : Class := { plain "java/util/Collection" (some 0) with
  accessFlags := 1537
  interfaces := #[3]
  cf := some (fileOf pool4 10 #[] #[{ accessFlags := 1025, nameIndex := 66, descriptorIndex := 30, attributes := #[] }] 1537 60 #[62] #[])
  fields := #[]
  methods := #[k4m0]
  instanceTypes := #[]
  staticTypes := #[]
  resolved := Array.replicate 115 none
  statics := none }

def pool5 : Array CpInfo := pool [(1, .methodref 2 3), (0, .class_ 4), (0, .nameAndType 5 6), (0, u "java/lang/Object"), (0, u "<init>"), (0, u "()V"), (1, .class_ 10), (1, u "java/util/AbstractCollection"), (66, .class_ 78), (0, u "java/util/Collection")] 81

def k5c0 : Code := { maxStack := 1, maxLocals := 1, code := jdk_22_method_1_code, exceptionTable := #[], attributes := #[] }
def k5m0 : Method := { name := "<init>", desc := "()V", sig := { parameters := [], returnType := none }, accessFlags := 4, code := some k5c0 }
/-- java/util/AbstractCollection -/
def k5 : Class := { plain "java/util/AbstractCollection" (some 0) with
  accessFlags := 1057
  interfaces := #[4]
  cf := some (fileOf pool5 8 #[] #[{ accessFlags := 4, nameIndex := 5, descriptorIndex := 6, attributes := #[] }] 1057 2 #[77] #[])
  fields := #[]
  methods := #[k5m0]
  instanceTypes := #[]
  staticTypes := #[]
  resolved := Array.replicate 160 none
  statics := none }

def pool6 : Array CpInfo := pool [(1, .class_ 2), (0, u "java/util/Queue"), (0, .class_ 4), (0, u "java/lang/Object"), (0, .class_ 6), (0, u "java/util/Collection")] 14

/-- java/util/Queue -/
def k6 : Class := { plain "java/util/Queue" (some 0) with
  accessFlags := 1537
  interfaces := #[4]
  cf := some (fileOf pool6 1 #[] #[] 1537 3 #[5] #[])
  fields := #[]
  methods := #[]
  instanceTypes := #[]
  staticTypes := #[]
  resolved := Array.replicate 21 none
  statics := none }

def pool7 : Array CpInfo := pool [(8, .class_ 10), (1, u "java/util/SequencedCollection"), (15, .class_ 27), (0, u "java/lang/Object"), (0, .class_ 29), (0, u "java/util/Collection")] 27

/-- java/util/SequencedCollection -/
def k7 : Class := { plain "java/util/SequencedCollection" (some 0) with
  accessFlags := 1537
  interfaces := #[4]
  cf := some (fileOf pool7 8 #[] #[] 1537 26 #[28] #[])
  fields := #[]
  methods := #[]
  instanceTypes := #[]
  staticTypes := #[]
  resolved := Array.replicate 57 none
  statics := none }

def pool8 : Array CpInfo := pool [(8, .class_ 10), (1, u "java/util/Deque"), (2, .class_ 14), (0, u "java/lang/Object"), (0, .class_ 16), (0, u "java/util/Queue"), (0, .class_ 18), (0, u "java/util/SequencedCollection")] 51

/-- java/util/Deque -/
def k8 : Class := { plain "java/util/Deque" (some 0) with
  accessFlags := 1537
  interfaces := #[6, 7]
  cf := some (fileOf pool8 8 #[] #[] 1537 13 #[15, 17] #[])
  fields := #[]
  methods := #[]
  instanceTypes := #[]
  staticTypes := #[]
  resolved := Array.replicate 70 none
  statics := none }

def pool9 : Array CpInfo := pool [(1, .class_ 2), (0, u "java/lang/Cloneable"), (0, .class_ 4), (0, u "java/lang/Object")] 2

/-- java/lang/Cloneable -/
def k9 : Class := { plain "java/lang/Cloneable" (some 0) with
  accessFlags := 1537
  interfaces := #[]
  cf := some (fileOf pool9 1 #[] #[] 1537 3 #[] #[])
  fields := #[]
  methods := #[]
  instanceTypes := #[]
  staticTypes := #[]
  resolved := Array.replicate 7 none
  statics := none }

def pool10 : Array CpInfo := pool [(1, .class_ 2), (0, u "java/io/Serializable"), (0, .class_ 4), (0, u "java/lang/Object")] 2

/-- java/io/Serializable -/
def k10 : Class := { plain "java/io/Serializable" (some 0) with
  accessFlags := 1537
  interfaces := #[]
  cf := some (fileOf pool10 1 #[] #[] 1537 3 #[] #[])
  fields := #[]
  methods := #[]
  instanceTypes := #[]
  staticTypes := #[]
  resolved := Array.replicate 7 none
  statics := none }

def pool11 : Array CpInfo := pool [(3, .fieldref 4 5), (0, .class_ 6), (0, .nameAndType 7 8), (0, u "java/util/ArrayDeque"), (0, u "elements"), (0, u "[Ljava/lang/Object;"), (11, .fieldref 4 21), (0, .nameAndType 22 23), (0, u "tail"), (0, u "I"), (0, .fieldref 4 25), (0, .nameAndType 26 23), (0, u "head"), (12, u "<init>"), (2, .methodref 43 44), (0, .class_ 45), (0, .nameAndType 39 46), (0, u "java/util/AbstractCollection"), (0, u "()V"), (0, .class_ 48), (0, u "java/lang/Object"), (82, .class_ 132), (0, u "java/util/ArrayDeque$DeqIterator"), (3, .class_ 137), (0, u "java/util/ArrayDeque$DescendingIterator"), (1, .class_ 140), (0, u "java/util/ArrayDeque$DeqSpliterator"), (137, .class_ 279), (0, u "java/util/Deque"), (0, .class_ 281), (0, u "java/lang/Cloneable"), (0, .class_ 283), (0, u "java/io/Serializable"), (0, u "MAX_ARRAY_SIZE"), (1, u "serialVersionUID"), (0, u "J"), (59, u "isEmpty"), (0, u "()Z")] 89

def k11c0 : Code := { maxStack := 2, maxLocals := 1, code := jdk_21_method_3_code, exceptionTable := #[], attributes := #[] }
def k11m0 : Method := { name := "<init>", desc := "()V", sig := { parameters := [], returnType := none }, accessFlags := 1, code := some k11c0 }
def k11c1 : Code := { maxStack := 2, maxLocals := 1, code := jdk_21_method_38_code, exceptionTable := #[], attributes := #[] }
def k11m1 : Method := { name := "isEmpty", desc := "()Z", sig := { parameters := [], returnType := some .boolean }, accessFlags := 1, code := some k11c1 }
/-- java/util/ArrayDeque -/
def k11 : Class := { plain "java/util/ArrayDeque" (some 5) with
  accessFlags := 33
  interfaces := #[8, 9, 10]
  cf := some (fileOf pool11 4 #[.nestMembers #[139, 136, 131]] #[{ accessFlags := 1, nameIndex := 39, descriptorIndex := 46, attributes := #[] }, { accessFlags := 1, nameIndex := 347, descriptorIndex := 348, attributes := #[] }] 33 43 #[278, 280, 282] #[{ accessFlags := 128, nameIndex := 7, descriptorIndex := 8, attributes := #[] }, { accessFlags := 128, nameIndex := 26, descriptorIndex := 23, attributes := #[] }, { accessFlags := 128, nameIndex := 22, descriptorIndex := 23, attributes := #[] }, { accessFlags := 26, nameIndex := 284, descriptorIndex := 23, attributes := #[] }, { accessFlags := 26, nameIndex := 286, descriptorIndex := 287, attributes := #[] }])
  fields := #[{ name := "elements", type := (.array (.object "java/lang/Object")), accessFlags := 128, slot := 0, constantValue := 0 }, { name := "head", type := .int, accessFlags := 128, slot := 1, constantValue := 0 }, { name := "tail", type := .int, accessFlags := 128, slot := 2, constantValue := 0 }, { name := "MAX_ARRAY_SIZE", type := .int, accessFlags := 26, slot := 0, constantValue := 0 }, { name := "serialVersionUID", type := .long, accessFlags := 26, slot := 1, constantValue := 0 }]
  methods := #[k11m0, k11m1]
  instanceTypes := #[(.array (.object "java/lang/Object")), .int, .int]
  staticTypes := #[.int, .long]
  resolved := Array.replicate 438 none
  statics := none }

def pool12 : Array CpInfo := pool [(2, .class_ 4), (1, u "java/lang/Object"), (0, u "<init>"), (0, u "()V"), (7, .class_ 16), (1, u "java/util/Arrays"), (57, .class_ 76), (1, u "java/util/Arrays$NaturalOrder"), (36, .class_ 115), (1, u "java/util/Arrays$LegacyMergeSort"), (1, u "Z"), (32, .methodref 151 152), (0, .class_ 153), (0, .nameAndType 154 155), (0, u "java/lang/System"), (0, u "arraycopy"), (0, u "(Ljava/lang/Object;ILjava/lang/Object;II)V"), (146, u "copyOf"), (1, .methodref 305 306), (0, .class_ 307), (0, .nameAndType 308 309), (0, u "java/lang/Math"), (0, u "min"), (0, u "(II)I"), (65, .class_ 376), (0, u "java/util/Arrays$ArrayList"), (68, u "$assertionsDisabled"), (269, u "MIN_ARRAY_SORT_GRAN"), (0, u "I"), (2, u "INSERTIONSORT_THRESHOLD"), (149, u "([BI)[B"), (105, .class_ 976), (0, u "java/util/Arrays$ArrayItr")] 52

def k12m0 : Method := { name := "<init>", desc := "()V", sig := { parameters := [], returnType := none }, accessFlags := 2, code := none }
def k12c1 : Code := { maxStack := 6, maxLocals := 3, code := jdk_65_method_121_code, exceptionTable := #[], attributes := #[] }
def k12m1 : Method := { name := "copyOf", desc := "([BI)[B", sig := { parameters := [(.array .byte), .int], returnType := some (.array .byte) }, accessFlags := 9, code := some k12c1 }
/-- java/util/Arrays -/
def k12 : Class := { plain "java/util/Arrays" (some 0) with
  accessFlags := 49
  interfaces := #[]
  cf := some (fileOf pool12 14 #[.nestMembers #[975, 375, 113, 74]] #[{ accessFlags := 2, nameIndex := 5, descriptorIndex := 6, attributes := #[] }, { accessFlags := 9, nameIndex := 302, descriptorIndex := 869, attributes := #[] }] 49 2 #[] #[{ accessFlags := 26, nameIndex := 715, descriptorIndex := 716, attributes := #[] }, { accessFlags := 26, nameIndex := 719, descriptorIndex := 716, attributes := #[] }, { accessFlags := 4120, nameIndex := 445, descriptorIndex := 117, attributes := #[] }])
  fields := #[{ name := "MIN_ARRAY_SORT_GRAN", type := .int, accessFlags := 26, slot := 0, constantValue := 0 }, { name := "INSERTIONSORT_THRESHOLD", type := .int, accessFlags := 26, slot := 1, constantValue := 0 }, { name := "$assertionsDisabled", type := .boolean, accessFlags := 4120, slot := 2, constantValue := 0 }]
  methods := #[k12m0, k12m1]
  instanceTypes := #[]
  staticTypes := #[.int, .int, .boolean]
  resolved := Array.replicate 1029 none
  statics := none }

def pool13 : Array CpInfo := pool [(1, .class_ 2), (0, u "java/lang/Math"), (1, .class_ 6), (1, u "java/lang/Object"), (0, u "<init>"), (0, u "()V"), (89, .class_ 100), (1, u "java/lang/Math$RandomNumberGeneratorHolder"), (71, u "negativeZeroFloatBits"), (0, u "J"), (2, u "negativeZeroDoubleBits"), (24, u "min"), (43, u "$assertionsDisabled"), (0, u "Z"), (88, u "(II)I"), (2, u "twoToTheDoubleScaleDown"), (0, u "D"), (4, u "twoToTheDoubleScaleUp"), (9, u "E"), (3, u "PI"), (2, u "TAU"), (2, u "DEGREES_TO_RADIANS"), (0, u "RADIANS_TO_DEGREES")] 94

def k13m0 : Method := { name := "<init>", desc := "()V", sig := { parameters := [], returnType := none }, accessFlags := 2, code := none }
def k13c1 : Code := { maxStack := 2, maxLocals := 2, code := jdk_29_method_69_code, exceptionTable := #[], attributes := #[] }
def k13m1 : Method := { name := "min", desc := "(II)I", sig := { parameters := [.int, .int], returnType := some .int }, accessFlags := 9, code := some k13c1 }
/-- java/lang/Math -/
def k13 : Class := { plain "java/lang/Math" (some 0) with
  accessFlags := 49
  interfaces := #[]
  cf := some (fileOf pool13 1 #[.nestMembers #[98]] #[{ accessFlags := 2, nameIndex := 7, descriptorIndex := 8, attributes := #[] }, { accessFlags := 9, nameIndex := 201, descriptorIndex := 335, attributes := #[] }] 49 4 #[] #[{ accessFlags := 25, nameIndex := 354, descriptorIndex := 339, attributes := #[] }, { accessFlags := 25, nameIndex := 358, descriptorIndex := 339, attributes := #[] }, { accessFlags := 25, nameIndex := 361, descriptorIndex := 339, attributes := #[] }, { accessFlags := 26, nameIndex := 364, descriptorIndex := 339, attributes := #[] }, { accessFlags := 26, nameIndex := 365, descriptorIndex := 339, attributes := #[] }, { accessFlags := 26, nameIndex := 172, descriptorIndex := 173, attributes := #[] }, { accessFlags := 26, nameIndex := 176, descriptorIndex := 173, attributes := #[] }, { accessFlags := 8, nameIndex := 344, descriptorIndex := 339, attributes := #[] }, { accessFlags := 8, nameIndex := 338, descriptorIndex := 339, attributes := #[] }, { accessFlags := 4120, nameIndex := 245, descriptorIndex := 246, attributes := #[] }])
  fields := #[{ name := "E", type := .double, accessFlags := 25, slot := 0, constantValue := 0 }, { name := "PI", type := .double, accessFlags := 25, slot := 1, constantValue := 0 }, { name := "TAU", type := .double, accessFlags := 25, slot := 2, constantValue := 0 }, { name := "DEGREES_TO_RADIANS", type := .double, accessFlags := 26, slot := 3, constantValue := 0 }, { name := "RADIANS_TO_DEGREES", type := .double, accessFlags := 26, slot := 4, constantValue := 0 }, { name := "negativeZeroFloatBits", type := .long, accessFlags := 26, slot := 5, constantValue := 0 }, { name := "negativeZeroDoubleBits", type := .long, accessFlags := 26, slot := 6, constantValue := 0 }, { name := "twoToTheDoubleScaleUp", type := .double, accessFlags := 8, slot := 7, constantValue := 0 }, { name := "twoToTheDoubleScaleDown", type := .double, accessFlags := 8, slot := 8, constantValue := 0 }, { name := "$assertionsDisabled", type := .boolean, accessFlags := 4120, slot := 9, constantValue := 0 }]
  methods := #[k13m0, k13m1]
  instanceTypes := #[]
  staticTypes := #[.double, .double, .double, .double, .double, .long, .long, .double, .double, .boolean]
  resolved := Array.replicate 460 none
  statics := none }

def pool14 : Array CpInfo := pool [(2, .class_ 4), (1, u "java/lang/Object"), (0, u "<init>"), (0, u "()V"), (1, .class_ 10), (1, u "java/lang/System"), (0, u "allowSecurityManager"), (0, u "I"), (16, u "cons"), (0, u "Ljava/io/Console;"), (77, .class_ 110), (1, u "java/lang/System$CallersHolder"), (43, u "initialErrStream"), (0, u "Ljava/io/PrintStream;"), (19, u "security"), (0, u "Ljava/lang/SecurityManager;"), (31, .class_ 209), (0, u "java/lang/System$1"), (7, u "props"), (0, u "Ljava/util/Properties;"), (2, u "lineSeparator"), (0, u "Ljava/lang/String;"), (96, .class_ 321), (1, u "java/lang/System$LoggerFinder"), (5, .class_ 328), (0, u "java/lang/System$Logger"), (67, u "err"), (2, u "out"), (91, u "notSupportedJnuEncoding"), (15, u "in"), (17, u "initialIn"), (0, u "Ljava/io/InputStream;"), (35, u "bootLayer"), (0, u "Ljava/lang/ModuleLayer;"), (99, .class_ 664), (0, u "java/lang/System$2"), (9, u "NEVER"), (2, u "MAYBE"), (49, u "arraycopy"), (0, u "(Ljava/lang/Object;ILjava/lang/Object;II)V"), (72, .class_ 802), (0, u "java/lang/System$Logger$Level")] 31

def k14m0 : Method := { name := "<init>", desc := "()V", sig := { parameters := [], returnType := none }, accessFlags := 2, code := none }
def k14m1 : Method := { name := "arraycopy", desc := "(Ljava/lang/Object;ILjava/lang/Object;II)V", sig := { parameters := [(.object "java/lang/Object"), .int, (.object "java/lang/Object"), .int, .int], returnType := none }, accessFlags := 265, code := none }
/-- java/lang/System -/
def k14 : Class := { plain "java/lang/System" (some 0) with
  accessFlags := 49
  interfaces := #[]
  cf := some (fileOf pool14 8 #[.nestMembers #[319, 327, 801, 108, 663, 208]] #[{ accessFlags := 2, nameIndex := 5, descriptorIndex := 6, attributes := #[] }, { accessFlags := 265, nameIndex := 727, descriptorIndex := 728, attributes := #[] }] 49 2 #[] #[{ accessFlags := 25, nameIndex := 507, descriptorIndex := 526, attributes := #[] }, { accessFlags := 25, nameIndex := 399, descriptorIndex := 155, attributes := #[] }, { accessFlags := 25, nameIndex := 396, descriptorIndex := 155, attributes := #[] }, { accessFlags := 10, nameIndex := 525, descriptorIndex := 526, attributes := #[] }, { accessFlags := 26, nameIndex := 674, descriptorIndex := 12, attributes := #[] }, { accessFlags := 26, nameIndex := 677, descriptorIndex := 12, attributes := #[] }, { accessFlags := 10, nameIndex := 11, descriptorIndex := 12, attributes := #[] }, { accessFlags := 74, nameIndex := 175, descriptorIndex := 176, attributes := #[] }, { accessFlags := 10, nameIndex := 491, descriptorIndex := 222, attributes := #[] }, { accessFlags := 74, nameIndex := 29, descriptorIndex := 30, attributes := #[] }, { accessFlags := 74, nameIndex := 154, descriptorIndex := 155, attributes := #[] }, { accessFlags := 10, nameIndex := 217, descriptorIndex := 218, attributes := #[] }, { accessFlags := 10, nameIndex := 221, descriptorIndex := 222, attributes := #[] }, { accessFlags := 8, nameIndex := 562, descriptorIndex := 563, attributes := #[] }])
  fields := #[{ name := "in", type := (.object "java/io/InputStream"), accessFlags := 25, slot := 0, constantValue := 0 }, { name := "out", type := (.object "java/io/PrintStream"), accessFlags := 25, slot := 1, constantValue := 0 }, { name := "err", type := (.object "java/io/PrintStream"), accessFlags := 25, slot := 2, constantValue := 0 }, { name := "initialIn", type := (.object "java/io/InputStream"), accessFlags := 10, slot := 3, constantValue := 0 }, { name := "NEVER", type := .int, accessFlags := 26, slot := 4, constantValue := 0 }, { name := "MAYBE", type := .int, accessFlags := 26, slot := 5, constantValue := 0 }, { name := "allowSecurityManager", type := .int, accessFlags := 10, slot := 6, constantValue := 0 }, { name := "security", type := (.object "java/lang/SecurityManager"), accessFlags := 74, slot := 7, constantValue := 0 }, { name := "notSupportedJnuEncoding", type := (.object "java/lang/String"), accessFlags := 10, slot := 8, constantValue := 0 }, { name := "cons", type := (.object "java/io/Console"), accessFlags := 74, slot := 9, constantValue := 0 }, { name := "initialErrStream", type := (.object "java/io/PrintStream"), accessFlags := 74, slot := 10, constantValue := 0 }, { name := "props", type := (.object "java/util/Properties"), accessFlags := 10, slot := 11, constantValue := 0 }, { name := "lineSeparator", type := (.object "java/lang/String"), accessFlags := 10, slot := 12, constantValue := 0 }, { name := "bootLayer", type := (.object "java/lang/ModuleLayer"), accessFlags := 8, slot := 13, constantValue := 0 }]
  methods := #[k14m0, k14m1]
  instanceTypes := #[]
  staticTypes := #[(.object "java/io/InputStream"), (.object "java/io/PrintStream"), (.object "java/io/PrintStream"), (.object "java/io/InputStream"), .int, .int, .int, (.object "java/lang/SecurityManager"), (.object "java/lang/String"), (.object "java/io/Console"), (.object "java/io/PrintStream"), (.object "java/util/Properties"), (.object "java/lang/String"), (.object "java/lang/ModuleLayer")]
  resolved := Array.replicate 834 none
  statics := none }

/-- the primitive byte -/
def k15 : Class := { plain "byte" none with kind := .primitive 'B', accessFlags := 0x411 }
/-- [B -/
def k16 : Class := { plain "[B" (some 0) with kind := .array 15 .byte, interfaces := #[9, 10], accessFlags := 1041 }

/-- the primitive int -/
def k17 : Class := { plain "int" none with kind := .primitive 'I', accessFlags := 0x411 }
/-- [I -/
def k18 : Class := { plain "[I" (some 0) with kind := .array 17 .int, interfaces := #[9, 10], accessFlags := 1041 }

/-- [Ljava/lang/Object; -/
def k19 : Class := { plain "[Ljava/lang/Object;" (some 0) with kind := .array 0 (.object "java/lang/Object"), interfaces := #[9, 10], accessFlags := 1041 }

def heap : Heap := #[]
def classes : Array Class := #[k0, k1, k2, k3, k4, k5, k6, k7, k8, k9, k10, k11, k12, k13, k14, k15, k16, k17, k18, k19]
def interned : List (Array UInt16 × Addr) := []
def slotsUsed : Nat := 0
def theMethod : MethodId := ⟨1, 3⟩
def args0 : Array Value := #[.int 5, .int 5, .int 5, .int 5, .int 5, .int 5]
def aboutOver (below : List Frame) : State where
  vm := { classes := classes, interned := interned.toArray }
  heap := heap
  slotsUsed := slotsUsed
  threads := #[{ frames := .invoking theMethod args0 :: below }]
def below0 : List Frame := [.native { method := ⟨0, 0⟩, args := #[] }]
def about1 : State := aboutOver below0
def p0 : Program := .bare "" "" ""
def e0 : Env := launch0.env 0 0 0
theorem w_frames : about1.frames = Frame.invoking theMethod args0 :: below0 := rfl
set_option maxRecDepth 65536 in
theorem w_args : argsFit about1.vm theMethod args0 = true := by decide +kernel
set_option maxRecDepth 65536 in
theorem w_heap : heapFits about1 = true := by decide +kernel
set_option maxRecDepth 65536 in
theorem w_runnable : about1.curStatus? = some .runnable := by decide +kernel
set_option maxRecDepth 65536 in
theorem w_alone : about1.alone = true := by decide +kernel
set_option maxRecDepth 65536 in
theorem w_named : about1.methodNamed? x = some theMethod := by decide +kernel
set_option maxRecDepth 65536 in
theorem w_hears : about1.hears theMethod below0 = true := by decide +kernel
set_option maxRecDepth 65536 in
theorem w_ripe : about1.ripe theMethod args0 below0 = true := by decide +kernel
theorem w_running : about1.status = .running := rfl
set_option maxRecDepth 65536 in
theorem w_room : about1.hasRoom e0.platform room_1 = true :=
  launch0.hasRoom_least _ room_1 (by decide +kernel) (by decide +kernel) (by decide +kernel) (by decide +kernel) (by decide +kernel) (by decide +kernel)
theorem allAtoms_all (ts : List Jvm.Cond) (a : Array Jvm.Value) (st : Jvm.State) : (allAtoms ts).before a st = ts.all (fun c => c.before a st) := by
  induction ts with
  | nil => rfl
  | cons c t ih =>
    show (Jvm.Cond.and c (allAtoms t)).before a st = _
    rw [Jvm.Cond.before_and, ih, List.all_cons]
def words1 : List Jvm.Cond := Jvm.Cond.code x code maxLocals ret :: tables_1
/-- a 'code' word, met by the world's own term for the bytes: nothing is compared byte by byte -/
theorem code_word {y : MethodName} {bytes : ByteArray} {mx : Nat} {rt : Option FieldType} {a : Array Value} {s : State} {m : MethodId} {meth : Method} {c : Code} (h1 : s.methodNamed? y = some m) (h2 : s.vm.method? m = some meth) (h3 : meth.code = some c) (h4 : c.code = bytes)
    (h5 : (c.maxLocals == mx && c.exceptionTable.isEmpty && decide (c.maxStack ≤ mostOperands) && decide (meth.sig.returnType = rt) && !meth.locks && decide (parseMethodDescriptor y.desc = some meth.sig)) = true) : (Jvm.Cond.code y bytes mx rt).before a s = true := by
  simp only [Bool.and_eq_true, beq_iff_eq, Bool.not_eq_true', decide_eq_true_eq] at h5
  obtain ⟨⟨⟨⟨⟨g1, g2⟩, g3⟩, g4⟩, g5⟩, g6⟩ := h5
  simp [Cond.before, Cond.holds, Cond.value, h1, h2, h3, h4, g1, g2, g3, g4, g5, g6]
def isCode : Jvm.Cond → Bool
  | .code _ _ _ _ => true
  | _ => false
theorem all_split {L : List Jvm.Cond} {P : Jvm.Cond → Bool} (h1 : L.all (fun c => isCode c || P c) = true) (h2 : ∀ c ∈ L.filter isCode, P c = true) : L.all P = true := by
  refine List.all_eq_true.mpr fun c hc => ?_
  have h := List.all_eq_true.mp h1 c hc
  rcases Bool.eq_false_or_eq_true (isCode c) with hi | hi
  · exact h2 c (List.mem_filter.mpr ⟨hc, hi⟩)
  · simpa [hi] using h
set_option maxRecDepth 65536 in
theorem w_c0 : (Jvm.Cond.code x code maxLocals ret).before args0 about1 = true := code_word (m := ⟨1, 3⟩) (meth := k1m3) (c := k1c3) (by decide +kernel) rfl rfl rfl (by decide +kernel)
set_option maxRecDepth 65536 in
theorem w_c1 : (Jvm.Cond.code ({ cls := "com/example/glowworm/glowworm/NetlinkWriter", name := "<init>", desc := "(IIII)V" } : Jvm.MethodName) prog_15_method_1_code (5 : Nat) (Option.none : Option Jvm.ClassFile.FieldType)).before args0 about1 = true := code_word (m := ⟨2, 0⟩) (meth := k2m0) (c := k2c0) (by decide +kernel) rfl rfl rfl (by decide +kernel)
set_option maxRecDepth 65536 in
theorem w_c2 : (Jvm.Cond.code ({ cls := "java/lang/Object", name := "<init>", desc := "()V" } : Jvm.MethodName) object_method_1_code (1 : Nat) (Option.none : Option Jvm.ClassFile.FieldType)).before args0 about1 = true := code_word (m := ⟨0, 0⟩) (meth := k0m0) (c := k0c0) (by decide +kernel) rfl rfl rfl (by decide +kernel)
set_option maxRecDepth 65536 in
theorem w_c3 : (Jvm.Cond.code ({ cls := "java/util/ArrayDeque", name := "<init>", desc := "()V" } : Jvm.MethodName) jdk_21_method_3_code (1 : Nat) (Option.none : Option Jvm.ClassFile.FieldType)).before args0 about1 = true := code_word (m := ⟨11, 0⟩) (meth := k11m0) (c := k11c0) (by decide +kernel) rfl rfl rfl (by decide +kernel)
set_option maxRecDepth 65536 in
theorem w_c4 : (Jvm.Cond.code ({ cls := "java/util/AbstractCollection", name := "<init>", desc := "()V" } : Jvm.MethodName) jdk_22_method_1_code (1 : Nat) (Option.none : Option Jvm.ClassFile.FieldType)).before args0 about1 = true := code_word (m := ⟨5, 0⟩) (meth := k5m0) (c := k5c0) (by decide +kernel) rfl rfl rfl (by decide +kernel)
set_option maxRecDepth 65536 in
theorem w_c5 : (Jvm.Cond.code ({ cls := "com/example/glowworm/glowworm/NetlinkWriter", name := "putU32", desc := "(I)V" } : Jvm.MethodName) prog_15_method_17_code (2 : Nat) (Option.none : Option Jvm.ClassFile.FieldType)).before args0 about1 = true := code_word (m := ⟨2, 4⟩) (meth := k2m4) (c := k2c4) (by decide +kernel) rfl rfl rfl (by decide +kernel)
set_option maxRecDepth 65536 in
theorem w_c6 : (Jvm.Cond.code ({ cls := "com/example/glowworm/glowworm/NetlinkWriter", name := "putU16", desc := "(I)V" } : Jvm.MethodName) prog_15_method_16_code (2 : Nat) (Option.none : Option Jvm.ClassFile.FieldType)).before args0 about1 = true := code_word (m := ⟨2, 3⟩) (meth := k2m3) (c := k2c3) (by decide +kernel) rfl rfl rfl (by decide +kernel)
set_option maxRecDepth 65536 in
theorem w_c7 : (Jvm.Cond.code ({ cls := "com/example/glowworm/glowworm/NetlinkWriter", name := "put", desc := "(B)V" } : Jvm.MethodName) prog_15_method_19_code (2 : Nat) (Option.none : Option Jvm.ClassFile.FieldType)).before args0 about1 = true := code_word (m := ⟨2, 6⟩) (meth := k2m6) (c := k2c6) (by decide +kernel) rfl rfl rfl (by decide +kernel)
set_option maxRecDepth 65536 in
theorem w_c8 : (Jvm.Cond.code ({ cls := "com/example/glowworm/glowworm/NetlinkWriter", name := "genlHeader", desc := "(II)Lcom/example/glowworm/glowworm/NetlinkWriter;" } : Jvm.MethodName) prog_15_method_2_code (3 : Nat) (Option.some (Jvm.ClassFile.FieldType.object "com/example/glowworm/glowworm/NetlinkWriter"))).before args0 about1 = true := code_word (m := ⟨2, 1⟩) (meth := k2m1) (c := k2c1) (by decide +kernel) rfl rfl rfl (by decide +kernel)
set_option maxRecDepth 65536 in
theorem w_c9 : (Jvm.Cond.code ({ cls := "com/example/glowworm/glowworm/NetlinkWriter", name := "toBytes", desc := "()[B" } : Jvm.MethodName) prog_15_method_12_code (1 : Nat) (Option.some (Jvm.ClassFile.FieldType.array Jvm.ClassFile.FieldType.byte))).before args0 about1 = true := code_word (m := ⟨2, 2⟩) (meth := k2m2) (c := k2c2) (by decide +kernel) rfl rfl rfl (by decide +kernel)
set_option maxRecDepth 65536 in
theorem w_c10 : (Jvm.Cond.code ({ cls := "java/util/ArrayDeque", name := "isEmpty", desc := "()Z" } : Jvm.MethodName) jdk_21_method_38_code (1 : Nat) (Option.some Jvm.ClassFile.FieldType.boolean)).before args0 about1 = true := code_word (m := ⟨11, 1⟩) (meth := k11m1) (c := k11c1) (by decide +kernel) rfl rfl rfl (by decide +kernel)
set_option maxRecDepth 65536 in
theorem w_c11 : (Jvm.Cond.code ({ cls := "com/example/glowworm/glowworm/NetlinkWriter", name := "setU16", desc := "(II)V" } : Jvm.MethodName) prog_15_method_18_code (3 : Nat) (Option.none : Option Jvm.ClassFile.FieldType)).before args0 about1 = true := code_word (m := ⟨2, 5⟩) (meth := k2m5) (c := k2c5) (by decide +kernel) rfl rfl rfl (by decide +kernel)
set_option maxRecDepth 65536 in
theorem w_c12 : (Jvm.Cond.code ({ cls := "java/util/Arrays", name := "copyOf", desc := "([BI)[B" } : Jvm.MethodName) jdk_65_method_121_code (3 : Nat) (Option.some (Jvm.ClassFile.FieldType.array Jvm.ClassFile.FieldType.byte))).before args0 about1 = true := code_word (m := ⟨12, 1⟩) (meth := k12m1) (c := k12c1) (by decide +kernel) rfl rfl rfl (by decide +kernel)
set_option maxRecDepth 65536 in
theorem w_c13 : (Jvm.Cond.code ({ cls := "java/lang/Math", name := "min", desc := "(II)I" } : Jvm.MethodName) jdk_29_method_69_code (2 : Nat) (Option.some Jvm.ClassFile.FieldType.int)).before args0 about1 = true := code_word (m := ⟨13, 1⟩) (meth := k13m1) (c := k13c1) (by decide +kernel) rfl rfl rfl (by decide +kernel)
set_option maxRecDepth 65536 in
theorem w_c14 : (Jvm.Cond.code ({ cls := "com/example/glowworm/glowworm/NetlinkWriterGenlHeaderPinLaw", name := "u32At", desc := "([BII)Z" } : Jvm.MethodName) method_3_code (5 : Nat) (Option.some Jvm.ClassFile.FieldType.boolean)).before args0 about1 = true := code_word (m := ⟨1, 2⟩) (meth := k1m2) (c := k1c2) (by decide +kernel) rfl rfl rfl (by decide +kernel)
set_option maxRecDepth 65536 in
theorem w_c15 : (Jvm.Cond.code ({ cls := "com/example/glowworm/glowworm/NetlinkWriterGenlHeaderPinLaw", name := "u16At", desc := "([BII)Z" } : Jvm.MethodName) method_2_code (4 : Nat) (Option.some Jvm.ClassFile.FieldType.boolean)).before args0 about1 = true := code_word (m := ⟨1, 1⟩) (meth := k1m1) (c := k1c1) (by decide +kernel) rfl rfl rfl (by decide +kernel)
def codes1 : List Jvm.Cond := [Jvm.Cond.code x code maxLocals ret, Jvm.Cond.code ({ cls := "com/example/glowworm/glowworm/NetlinkWriter", name := "<init>", desc := "(IIII)V" } : Jvm.MethodName) prog_15_method_1_code (5 : Nat) (Option.none : Option Jvm.ClassFile.FieldType), Jvm.Cond.code ({ cls := "java/lang/Object", name := "<init>", desc := "()V" } : Jvm.MethodName) object_method_1_code (1 : Nat) (Option.none : Option Jvm.ClassFile.FieldType), Jvm.Cond.code ({ cls := "java/util/ArrayDeque", name := "<init>", desc := "()V" } : Jvm.MethodName) jdk_21_method_3_code (1 : Nat) (Option.none : Option Jvm.ClassFile.FieldType), Jvm.Cond.code ({ cls := "java/util/AbstractCollection", name := "<init>", desc := "()V" } : Jvm.MethodName) jdk_22_method_1_code (1 : Nat) (Option.none : Option Jvm.ClassFile.FieldType), Jvm.Cond.code ({ cls := "com/example/glowworm/glowworm/NetlinkWriter", name := "putU32", desc := "(I)V" } : Jvm.MethodName) prog_15_method_17_code (2 : Nat) (Option.none : Option Jvm.ClassFile.FieldType), Jvm.Cond.code ({ cls := "com/example/glowworm/glowworm/NetlinkWriter", name := "putU16", desc := "(I)V" } : Jvm.MethodName) prog_15_method_16_code (2 : Nat) (Option.none : Option Jvm.ClassFile.FieldType), Jvm.Cond.code ({ cls := "com/example/glowworm/glowworm/NetlinkWriter", name := "put", desc := "(B)V" } : Jvm.MethodName) prog_15_method_19_code (2 : Nat) (Option.none : Option Jvm.ClassFile.FieldType), Jvm.Cond.code ({ cls := "com/example/glowworm/glowworm/NetlinkWriter", name := "genlHeader", desc := "(II)Lcom/example/glowworm/glowworm/NetlinkWriter;" } : Jvm.MethodName) prog_15_method_2_code (3 : Nat) (Option.some (Jvm.ClassFile.FieldType.object "com/example/glowworm/glowworm/NetlinkWriter")), Jvm.Cond.code ({ cls := "com/example/glowworm/glowworm/NetlinkWriter", name := "toBytes", desc := "()[B" } : Jvm.MethodName) prog_15_method_12_code (1 : Nat) (Option.some (Jvm.ClassFile.FieldType.array Jvm.ClassFile.FieldType.byte)), Jvm.Cond.code ({ cls := "java/util/ArrayDeque", name := "isEmpty", desc := "()Z" } : Jvm.MethodName) jdk_21_method_38_code (1 : Nat) (Option.some Jvm.ClassFile.FieldType.boolean), Jvm.Cond.code ({ cls := "com/example/glowworm/glowworm/NetlinkWriter", name := "setU16", desc := "(II)V" } : Jvm.MethodName) prog_15_method_18_code (3 : Nat) (Option.none : Option Jvm.ClassFile.FieldType), Jvm.Cond.code ({ cls := "java/util/Arrays", name := "copyOf", desc := "([BI)[B" } : Jvm.MethodName) jdk_65_method_121_code (3 : Nat) (Option.some (Jvm.ClassFile.FieldType.array Jvm.ClassFile.FieldType.byte)), Jvm.Cond.code ({ cls := "java/lang/Math", name := "min", desc := "(II)I" } : Jvm.MethodName) jdk_29_method_69_code (2 : Nat) (Option.some Jvm.ClassFile.FieldType.int), Jvm.Cond.code ({ cls := "com/example/glowworm/glowworm/NetlinkWriterGenlHeaderPinLaw", name := "u32At", desc := "([BII)Z" } : Jvm.MethodName) method_3_code (5 : Nat) (Option.some Jvm.ClassFile.FieldType.boolean), Jvm.Cond.code ({ cls := "com/example/glowworm/glowworm/NetlinkWriterGenlHeaderPinLaw", name := "u16At", desc := "([BII)Z" } : Jvm.MethodName) method_2_code (4 : Nat) (Option.some Jvm.ClassFile.FieldType.boolean)]
set_option maxRecDepth 65536 in
theorem codes_eq : words1.filter isCode = codes1 := rfl
theorem w_codes : ∀ c ∈ words1.filter isCode, c.before args0 about1 = true := by
  rw [codes_eq]
  intro c hc
  simp only [codes1, List.mem_cons, List.not_mem_nil, or_false] at hc
  rcases hc with rfl | rfl | rfl | rfl | rfl | rfl | rfl | rfl | rfl | rfl | rfl | rfl | rfl | rfl | rfl | rfl
  · exact w_c0
  · exact w_c1
  · exact w_c2
  · exact w_c3
  · exact w_c4
  · exact w_c5
  · exact w_c6
  · exact w_c7
  · exact w_c8
  · exact w_c9
  · exact w_c10
  · exact w_c11
  · exact w_c12
  · exact w_c13
  · exact w_c14
  · exact w_c15
set_option maxRecDepth 65536 in
theorem w_t1 : (words1.take 24).all (fun c => isCode c || c.before args0 about1) = true := by decide +kernel
set_option maxRecDepth 65536 in
theorem w_t2 : ((words1.drop 24).take 24).all (fun c => isCode c || c.before args0 about1) = true := by decide +kernel
set_option maxRecDepth 65536 in
theorem w_t3 : (((words1.drop 24).drop 24).take 24).all (fun c => isCode c || c.before args0 about1) = true := by decide +kernel
set_option maxRecDepth 65536 in
theorem w_t4 : ((((words1.drop 24).drop 24).drop 24).take 24).all (fun c => isCode c || c.before args0 about1) = true := by decide +kernel
set_option maxRecDepth 65536 in
theorem w_t5 : ((((words1.drop 24).drop 24).drop 24).drop 24).all (fun c => isCode c || c.before args0 about1) = true := by decide +kernel
theorem w_tables : (allAtoms (Jvm.Cond.code x code maxLocals ret :: tables_1)).before args0 about1 = true := by
  rw [allAtoms_all]
  show words1.all (fun c => c.before args0 about1) = true
  refine all_split ?_ w_codes
  rw [← List.take_append_drop 24 words1, List.all_append, w_t1, ← List.take_append_drop 24 (words1.drop 24), List.all_append, w_t2, ← List.take_append_drop 24 ((words1.drop 24).drop 24), List.all_append, w_t3, ← List.take_append_drop 24 (((words1.drop 24).drop 24).drop 24), List.all_append, w_t4, w_t5]
  rfl
set_option maxRecDepth 65536 in
theorem w_case : (Jvm.Cond.and given_1 narrow_1).before args0 about1 = true := by decide +kernel
theorem w_applies : (headSpec (Jvm.Cond.code x code maxLocals ret :: tables_1) room_1).applies x e0.platform about1 = true :=
  (Spec.applies_iff w_frames).mpr ⟨w_running, w_runnable, w_alone, w_named, w_hears, w_ripe, w_room, w_tables⟩
theorem atStart : AtStart classFile x code maxLocals ret World_1 tables_1 room_1 Calls_1 rest_1 Pre_1 launch0 p0 e0 about1 theMethod args0 below0 :=
  ⟨lists_1, trivial, launch0.admits_env _ _ _, launch0.least_env, fairChoices_fair.cas, fairChoices_fair.clock, w_frames, w_args, w_heap, w_applies, trivial, trivial, w_case⟩
end start1
theorem witness_1 : WitnessClaimed_1 := ⟨start1.p0, start1.e0, start1.about1, start1.theMethod, start1.args0, start1.below0, start1.atStart⟩
end Jvm.Pilot.@@N@@

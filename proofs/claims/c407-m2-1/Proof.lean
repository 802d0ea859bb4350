import JvmDerived
import JvmDerived.Pilot.@@N@@Statement
import JvmDerived.Pilot.@@N@@Code
set_option linter.unusedVariables false
set_option linter.unusedSimpArgs false
namespace Jvm.Pilot.@@N@@
open Jvm Jvm.ClassFile Sem Op Lib Jvm.Free Jvm.Stand Jvm.LawKit Jvm.RoadKit Bundle Jvm.Pilot.@@N@@.Jvm.D
def Go (p : Program) (e : Env) (below : List Frame) (s : State) (Q : Option Value → Heap → List Loc → Prop) (C S : Nat) (V : State) : Prop :=
  ∃ (U : State) (o : Outcome), Steps p.tables e below V U ∧ U.status = .running ∧ Ended U below o ∧ ∃ v L, o = .returned v ∧ Q v U.heap L ∧ FrameEnd s o U L C S
def Ga (p : Program) (e : Env) (below : List Frame) (s : State) (Q : Option Value → Heap → List Loc → Prop) (C S : Nat) (T : State) (m : MethodId) (pc : Nat) (Ls : Array Slot) (st : List Value) : Prop :=
  Go p e below s Q C S (T.setTop (mkF m pc Ls st))
abbrev Ct (l : Launch) (Z : State) (y : MethodName) (bytes : ByteArray) (maxL : Nat) (ret : Option FieldType) (ws : List Jvm.Cond) (rm : Room) (as' : Array Value) (h0 : Heap) (Q : Option Value → Heap → List Loc → Prop) : Prop :=
  MetFree l y (head1 (Jvm.Cond.code y bytes maxL ret :: ws) rm) (fun a U => a = as' ∧ Z.Warmed39 U.vm ∧ U.heap = h0) (fun _ _ _ _ _ => True) (fun _ U o U' => ∃ v L, o = .returned v ∧ Q v U'.heap L ∧ FrameEnd U o U' L rm.cells rm.slots)
section GoKit
variable {p : Program} {l : Launch} {e : Env} {R : Room} {s : State} {m : MethodId} {args : Array Value} {below : List Frame} {meth : Method} {c : Code} {T T' : State} {locs : List Loc} {cells slots : Nat} {Q : Option Value → Heap → List Loc → Prop} {C S : Nat} {Z : State} {a0 : Array Value} {h : Heap} {pc q pc' : Nat} {Ls Ls' : Array Slot} {st st' : List Value} {own : String}
theorem Ga.stp (k : ∀ t, Steps p.tables e below (T'.setTop (mkF m pc' Ls' st')) t → Steps p.tables e below (T.setTop (mkF m pc Ls st)) t) (g : Ga p e below s Q C S T' m pc' Ls' st') : Ga p e below s Q C S T m pc Ls st := by
  obtain ⟨U, o, h, r⟩ := g
  exact ⟨U, o, k _ h, r⟩
theorem own_body {y : MethodName} {bytes : ByteArray} {maxL : Nat} {ret : Option FieldType} {ws : List Jvm.Cond} {rm : Room} {h0 : Heap} {as' : Array Value} (hpl : plainFor y = true) (hef : ∀ m, entryFrame m as' maxL = mkF m 0 Ls [])
    (body : ∀ (p : Program) (e : Env) (s : State) (m : MethodId) (below : List Frame) (meth : Method) (c : Code) (T : State), p.tables.exec = Jvm.exec → c.code = bytes → c.maxLocals = maxL → Z.Warmed39 s.vm → s.vm.findClass y.cls = some m.cls → meth.name = y.name → meth.sig.returnType = ret → meth.locks = false →
      Stand p l e rm s m as' below meth c T [] 0 0 → T.heap = h0 → Ga p e below s Q rm.cells rm.slots T m 0 Ls []) : Ct l Z y bytes maxL ret ws rm as' h0 Q := by
  refine MetFree.of_bodySF hpl hisR ?_
  intro p e s m args below meth c s₁ Bd hml0 hP hK
  obtain ⟨rfl, hZ, hh⟩ := hP
  have X0 : Stand p l e rm s m args below meth c s₁ [] 0 0 := Stand.of_body Bd
  have e0 : s₁.heap = h0 := by rw [← hh, Bd.state]; rfl
  obtain ⟨U, o, g1, g2⟩ := body p e s m below meth c s₁ Bd.exec Bd.bytes hml0 hZ (findClass_of_methodNamed Bd.named) (name_of_methodNamed Bd.named Bd.method).1 Bd.returns (BodyLoose.notSynchronized Bd) X0 e0
  exact ⟨U, o, castTop (hef m) g1, g2⟩
theorem Ga.out (X : Stand p l e R s m args below meth c T locs cells slots) {v : Option Value} (hlk : meth.locks = false) (hv : meth.sig.returnType = none → v = none) (hc : cells ≤ C) (hs : slots ≤ S) (hq : Q v T.heap locs)
    (k : ∀ fs, (∀ (f : JFrame) (acts : List Action), f.method = m → f.locked = none → f.entered = [] → (doReturn e (T.setTop f) acts v).1 = T.setFrames fs) → Steps p.tables e below (T.setTop (mkF m pc Ls st)) (T.setFrames fs)) : Ga p e below s Q C S T m pc Ls st := by
  obtain ⟨fs, hr, hrun, hended, hW, hsame⟩ := X.leave (v := v) hv hlk
  exact ⟨_, _, k fs hr, hrun, hended, _, _, rfl, hq, ⟨_, rfl⟩, hW, hsame.mono hc hs⟩
theorem g_iloadN (X : Stand p l e R s m args below meth c T locs cells slots) (hx : p.tables.exec = Jvm.exec) {k : Fin 4} {v : Int32} (hd : decode c.code pc = .ok (.iload_n k, 1)) (hp : pc + 1 = q) (hl : Ls[k.val]? = some (.val (.int v))) (g : Ga p e below s Q C S T m q Ls (.int v :: st)) : Ga p e below s Q C S T m pc Ls st := by
  subst hp
  exact Ga.stp (fun _ k => XS.iloadN X.here hx rfl hd hl k) g
theorem g_iload (X : Stand p l e R s m args below meth c T locs cells slots) (hx : p.tables.exec = Jvm.exec) {k : Nat} {v : Int32} (hd : decode c.code pc = .ok (.iload k, 2)) (hp : pc + 2 = q) (hl : Ls[k]? = some (.val (.int v))) (g : Ga p e below s Q C S T m q Ls (.int v :: st)) : Ga p e below s Q C S T m pc Ls st := by
  subst hp
  exact Ga.stp (fun _ k => XS.iload X.here hx rfl hd hl k) g
theorem g_lloadN (X : Stand p l e R s m args below meth c T locs cells slots) (hx : p.tables.exec = Jvm.exec) {k : Fin 4} {v : Int64} (hd : decode c.code pc = .ok (.lload_n k, 1)) (hp : pc + 1 = q) (hl : Ls[k.val]? = some (.val (.long v))) (g : Ga p e below s Q C S T m q Ls (.long v :: st)) : Ga p e below s Q C S T m pc Ls st := by
  subst hp
  exact Ga.stp (fun _ k => XS.lloadN X.here hx rfl hd hl k) g
theorem g_lload (X : Stand p l e R s m args below meth c T locs cells slots) (hx : p.tables.exec = Jvm.exec) {k : Nat} {v : Int64} (hd : decode c.code pc = .ok (.lload k, 2)) (hp : pc + 2 = q) (hl : Ls[k]? = some (.val (.long v))) (g : Ga p e below s Q C S T m q Ls (.long v :: st)) : Ga p e below s Q C S T m pc Ls st := by
  subst hp
  exact Ga.stp (fun _ k => XS.lload X.here hx rfl hd hl k) g
theorem g_istore (X : Stand p l e R s m args below meth c T locs cells slots) (hx : p.tables.exec = Jvm.exec) {k : Nat} {x : Int32} (hd : decode c.code pc = .ok (.istore k, 2)) (hp : pc + 2 = q) (hl : storeLocals Ls k (.int x) = some Ls') (g : Ga p e below s Q C S T m q Ls' st) : Ga p e below s Q C S T m pc Ls (.int x :: st) := by
  subst hp
  exact Ga.stp (fun _ k => XS.istore X.here hx rfl hd rfl hl k) g
theorem g_lstoreN (X : Stand p l e R s m args below meth c T locs cells slots) (hx : p.tables.exec = Jvm.exec) {k : Fin 4} {x : Int64} (hd : decode c.code pc = .ok (.lstore_n k, 1)) (hp : pc + 1 = q) (hl : storeLocals Ls k.val (.long x) = some Ls') (g : Ga p e below s Q C S T m q Ls' st) : Ga p e below s Q C S T m pc Ls (.long x :: st) := by
  subst hp
  exact Ga.stp (fun _ k => XS.lstoreN X.here hx rfl hd rfl hl k) g
theorem g_lstore (X : Stand p l e R s m args below meth c T locs cells slots) (hx : p.tables.exec = Jvm.exec) {k : Nat} {x : Int64} (hd : decode c.code pc = .ok (.lstore k, 2)) (hp : pc + 2 = q) (hl : storeLocals Ls k (.long x) = some Ls') (g : Ga p e below s Q C S T m q Ls' st) : Ga p e below s Q C S T m pc Ls (.long x :: st) := by
  subst hp
  exact Ga.stp (fun _ k => XS.lstore X.here hx rfl hd rfl hl k) g
theorem g_iconst (X : Stand p l e R s m args below meth c T locs cells slots) (hx : p.tables.exec = Jvm.exec) {i : Int} {r : Int32} (hd : decode c.code pc = .ok (.iconst i, 1)) (hp : pc + 1 = q) (hr : Int32.ofInt i = r) (g : Ga p e below s Q C S T m q Ls (.int r :: st)) : Ga p e below s Q C S T m pc Ls st := by
  subst hp hr
  exact Ga.stp (fun _ k => XS.iconst X.here hx rfl hd k) g
theorem g_bipush (X : Stand p l e R s m args below meth c T locs cells slots) (hx : p.tables.exec = Jvm.exec) {i : Int} {r : Int32} (hd : decode c.code pc = .ok (.bipush i, 2)) (hp : pc + 2 = q) (hr : (Int8.ofInt i).toInt32 = r) (g : Ga p e below s Q C S T m q Ls (.int r :: st)) : Ga p e below s Q C S T m pc Ls st := by
  subst hp hr
  exact Ga.stp (fun _ k => XS.bipush X.here hx rfl hd k) g
theorem g_iadd (X : Stand p l e R s m args below meth c T locs cells slots) (hx : p.tables.exec = Jvm.exec) {x y r : Int32} (hd : decode c.code pc = .ok (.iadd, 1)) (hp : pc + 1 = q) (hr : x + y = r) (g : Ga p e below s Q C S T m q Ls (.int r :: st)) : Ga p e below s Q C S T m pc Ls (.int y :: .int x :: st) := by
  subst hp hr
  exact Ga.stp (fun _ k => XS.iadd X.here hx rfl hd rfl k) g
theorem g_isub (X : Stand p l e R s m args below meth c T locs cells slots) (hx : p.tables.exec = Jvm.exec) {x y r : Int32} (hd : decode c.code pc = .ok (.isub, 1)) (hp : pc + 1 = q) (hr : x - y = r) (g : Ga p e below s Q C S T m q Ls (.int r :: st)) : Ga p e below s Q C S T m pc Ls (.int y :: .int x :: st) := by
  subst hp hr
  exact Ga.stp (fun _ k => XS.isub X.here hx rfl hd rfl k) g
theorem g_imul (X : Stand p l e R s m args below meth c T locs cells slots) (hx : p.tables.exec = Jvm.exec) {x y r : Int32} (hd : decode c.code pc = .ok (.imul, 1)) (hp : pc + 1 = q) (hr : x * y = r) (g : Ga p e below s Q C S T m q Ls (.int r :: st)) : Ga p e below s Q C S T m pc Ls (.int y :: .int x :: st) := by
  subst hp hr
  exact Ga.stp (fun _ k => XS.imul X.here hx rfl hd rfl k) g
theorem g_iand (X : Stand p l e R s m args below meth c T locs cells slots) (hx : p.tables.exec = Jvm.exec) {x y r : Int32} (hd : decode c.code pc = .ok (.iand, 1)) (hp : pc + 1 = q) (hr : x &&& y = r) (g : Ga p e below s Q C S T m q Ls (.int r :: st)) : Ga p e below s Q C S T m pc Ls (.int y :: .int x :: st) := by
  subst hp hr
  exact Ga.stp (fun _ k => XS.iand X.here hx rfl hd rfl k) g
theorem g_ladd (X : Stand p l e R s m args below meth c T locs cells slots) (hx : p.tables.exec = Jvm.exec) {x y r : Int64} (hd : decode c.code pc = .ok (.ladd, 1)) (hp : pc + 1 = q) (hr : x + y = r) (g : Ga p e below s Q C S T m q Ls (.long r :: st)) : Ga p e below s Q C S T m pc Ls (.long y :: .long x :: st) := by
  subst hp hr
  exact Ga.stp (fun _ k => XS.ladd X.here hx rfl hd rfl k) g
theorem g_lmul (X : Stand p l e R s m args below meth c T locs cells slots) (hx : p.tables.exec = Jvm.exec) {x y r : Int64} (hd : decode c.code pc = .ok (.lmul, 1)) (hp : pc + 1 = q) (hr : x * y = r) (g : Ga p e below s Q C S T m q Ls (.long r :: st)) : Ga p e below s Q C S T m pc Ls (.long y :: .long x :: st) := by
  subst hp hr
  exact Ga.stp (fun _ k => XS.lmul X.here hx rfl hd rfl k) g
theorem g_land (X : Stand p l e R s m args below meth c T locs cells slots) (hx : p.tables.exec = Jvm.exec) {x y r : Int64} (hd : decode c.code pc = .ok (.land, 1)) (hp : pc + 1 = q) (hr : x &&& y = r) (g : Ga p e below s Q C S T m q Ls (.long r :: st)) : Ga p e below s Q C S T m pc Ls (.long y :: .long x :: st) := by
  subst hp hr
  exact Ga.stp (fun _ k => XS.land X.here hx rfl hd rfl k) g
theorem g_lushr (X : Stand p l e R s m args below meth c T locs cells slots) (hx : p.tables.exec = Jvm.exec) {x r : Int64} {y : Int32} (hd : decode c.code pc = .ok (.lushr, 1)) (hp : pc + 1 = q) (hr : (x.toUInt64 >>> (y &&& 0x3f).toInt64.toUInt64).toInt64 = r) (g : Ga p e below s Q C S T m q Ls (.long r :: st)) : Ga p e below s Q C S T m pc Ls (.int y :: .long x :: st) := by
  subst hp hr
  exact Ga.stp (fun _ k => XS.lushr X.here hx rfl hd rfl k) g
theorem g_i2l (X : Stand p l e R s m args below meth c T locs cells slots) (hx : p.tables.exec = Jvm.exec) {x : Int32} {r : Int64} (hd : decode c.code pc = .ok (.i2l, 1)) (hp : pc + 1 = q) (hr : x.toInt64 = r) (g : Ga p e below s Q C S T m q Ls (.long r :: st)) : Ga p e below s Q C S T m pc Ls (.int x :: st) := by
  subst hp hr
  exact Ga.stp (fun _ k => XS.i2l X.here hx rfl hd rfl k) g
theorem g_l2i (X : Stand p l e R s m args below meth c T locs cells slots) (hx : p.tables.exec = Jvm.exec) {x : Int64} {r : Int32} (hd : decode c.code pc = .ok (.l2i, 1)) (hp : pc + 1 = q) (hr : x.toInt32 = r) (g : Ga p e below s Q C S T m q Ls (.int r :: st)) : Ga p e below s Q C S T m pc Ls (.long x :: st) := by
  subst hp hr
  exact Ga.stp (fun _ k => XS.l2i X.here hx rfl hd rfl k) g
theorem g_lcmp (X : Stand p l e R s m args below meth c T locs cells slots) (hx : p.tables.exec = Jvm.exec) {x y : Int64} (hd : decode c.code pc = .ok (.lcmp, 1)) (hp : pc + 1 = q)  (g : Ga p e below s Q C S T m q Ls (.int (XT.cmpL x y) :: st)) : Ga p e below s Q C S T m pc Ls (.long y :: .long x :: st) := by
  subst hp
  exact Ga.stp (fun _ k => XT.lcmp X.here hx rfl hd rfl k) g
theorem g_goto (X : Stand p l e R s m args below meth c T locs cells slots) (hx : p.tables.exec = Jvm.exec) {o : Int} (hd : decode c.code pc = .ok (.goto o, 3)) (ho : 0 ≤ (pc : Int) + o) (hp : ((pc : Int) + o).toNat = q) (g : Ga p e below s Q C S T m q Ls st) : Ga p e below s Q C S T m pc Ls st :=
  Ga.stp (fun _ k => XS.goto X.here hx rfl rfl hd ho hp k) g
theorem g_ifY (X : Stand p l e R s m args below meth c T locs cells slots) (hx : p.tables.exec = Jvm.exec) {cd : ClassFile.Cond} {x : Int32} {o : Int} (hd : decode c.code pc = .ok (.ifCond cd o, 3)) (hc : ifCond.holds cd x = true) (ho : 0 ≤ (pc : Int) + o) (hp : ((pc : Int) + o).toNat = q) (g : Ga p e below s Q C S T m q Ls st) : Ga p e below s Q C S T m pc Ls (.int x :: st) :=
  Ga.stp (fun _ k => XS.ifYes X.here hx rfl rfl hd rfl hc ho hp k) g
theorem g_ifN (X : Stand p l e R s m args below meth c T locs cells slots) (hx : p.tables.exec = Jvm.exec) {cd : ClassFile.Cond} {x : Int32} {o : Int} (hd : decode c.code pc = .ok (.ifCond cd o, 3)) (hp : pc + 3 = q) (hc : ifCond.holds cd x = false) (g : Ga p e below s Q C S T m q Ls st) : Ga p e below s Q C S T m pc Ls (.int x :: st) := by
  subst hp
  exact Ga.stp (fun _ k => XS.ifNo X.here hx rfl hd rfl hc k) g
theorem g_icmpY (X : Stand p l e R s m args below meth c T locs cells slots) (hx : p.tables.exec = Jvm.exec) {cd : ClassFile.Cond} {x y : Int32} {o : Int} (hd : decode c.code pc = .ok (.if_icmp cd o, 3)) (hc : if_icmp.holds cd x y = true) (ho : 0 ≤ (pc : Int) + o) (hp : ((pc : Int) + o).toNat = q) (g : Ga p e below s Q C S T m q Ls st) : Ga p e below s Q C S T m pc Ls (.int y :: .int x :: st) :=
  Ga.stp (fun _ k => XS.icmpYes X.here hx rfl rfl hd rfl hc ho hp k) g
theorem g_icmpN (X : Stand p l e R s m args below meth c T locs cells slots) (hx : p.tables.exec = Jvm.exec) {cd : ClassFile.Cond} {x y : Int32} {o : Int} (hd : decode c.code pc = .ok (.if_icmp cd o, 3)) (hp : pc + 3 = q) (hc : if_icmp.holds cd x y = false) (g : Ga p e below s Q C S T m q Ls st) : Ga p e below s Q C S T m pc Ls (.int y :: .int x :: st) := by
  subst hp
  exact Ga.stp (fun _ k => XS.icmpNo X.here hx rfl hd rfl hc k) g
theorem g_retI (X : Stand p l e R s m args below meth c T locs cells slots) (hx : p.tables.exec = Jvm.exec) {z : Int32} (hret : meth.sig.returnType = some .int) (hlk : meth.locks = false) (hd : decode c.code pc = .ok (.ireturn, 1)) (hc : cells ≤ C) (hs : slots ≤ S) (hq : Q (some (.int z)) T.heap locs) : Ga p e below s Q C S T m pc Ls (.int z :: st) :=
  Ga.out X hlk (fun h => by rw [hret] at h; cases h) hc hs hq fun fs hr => retOut X hx hret rfl (Or.inl ⟨rfl, Or.inl rfl, z, rfl⟩) hd hr
theorem g_retN (X : Stand p l e R s m args below meth c T locs cells slots) (hx : p.tables.exec = Jvm.exec) {z r : Int32} {t : FieldType} (hret : meth.sig.returnType = some t) (ht : t = .boolean ∨ t = .byte ∨ t = .char ∨ t = .short) (hlk : meth.locks = false) (hd : decode c.code pc = .ok (.ireturn, 1)) (hr : nar t z = r) (hc : cells ≤ C) (hs : slots ≤ S) (hq : Q (some (.int r)) T.heap locs) : Ga p e below s Q C S T m pc Ls (.int z :: st) := by
  subst hr
  exact Ga.out X hlk (fun h => by rw [hret] at h; cases h) hc hs hq fun fs hr => retN X hx hret ht hd hr
theorem g_ldc2 (X : Stand p l e R s m args below meth c T locs cells slots) (hx : p.tables.exec = Jvm.exec) (hZ : Z.Warmed39 s.vm) (hown : s.vm.findClass own = some m.cls) {index : Nat} {v : Int64} (w : (Cond.constantLong own index v).before a0 Z = true) (hd : decode c.code pc = .ok (.ldc2_w index, 3)) (hp : pc + 3 = q) (g : Ga p e below s Q C S T m q Ls (.long v :: st)) : Ga p e below s Q C S T m pc Ls st := by
  subst hp
  exact Ga.stp (fun t k => X.ldc2Long hx hown (mvT hZ w) (g := mkF m pc Ls st) rfl hd t k) g
theorem g_getS (X : Stand p l e R s m args below meth c T locs cells slots) (hx : p.tables.exec = Jvm.exec) (hZ : Z.Warmed39 s.vm) (hown : s.vm.findClass own = some m.cls) {R0 O n d host : String} {index : Nat} (w : (Cond.fieldLink own index R0 n d).before a0 Z = true ∨ (Cond.fieldLinkNest own index R0 n d host).before a0 Z = true) (via : Via Z R0 O n d) (eT : T.heap = h) {v : Value} (F : Sta Z h O n d v)
    (hd : decode c.code pc = .ok (.getstatic index, 3)) (hp : pc + 3 = q) (k : ∀ T', Stand p l e R s m args below meth c T' locs cells slots → T'.heap = h → Ga p e below s Q C S T' m q Ls (v :: st)) : Ga p e below s Q C S T m pc Ls st := by
  subst hp
  obtain ⟨T', X', e', sx⟩ := getS2 X hx hZ hown w via eT F (g := mkF m pc Ls st) rfl hd
  exact Ga.stp sx (k T' X' e')
theorem g_static (X : Stand p l e R s m args below meth c T locs cells slots) (hx : p.tables.exec = Jvm.exec) (hZ : Z.Warmed39 s.vm) (hown : s.vm.findClass own = some m.cls) {index : Nat} {y : MethodName} {ret : Option FieldType} {bytes : ByteArray} {maxL : Nat} {rm : Room} {as' : Array Value} {Q' : Option Value → Heap → List Loc → Prop} (w1 : (Cond.methodLink own index y).before a0 Z = true) (w2 : (Cond.static y).before a0 Z = true) (w3 : (Cond.initialized y.cls).before a0 Z = true) (w4 : (Cond.code y bytes maxL ret).before a0 Z = true) (hy : y.cls ≠ "java/lang/invoke/MethodHandle" ∧ y.cls ≠ "java/lang/invoke/VarHandle")
    (hM : Ct l Z y bytes maxL ret [] rm as' h Q') (hsz : Ls.size = c.maxLocals) (eT : T.heap = h) (argsL : List Value) {rest : List Value} (has : as' = argsL.toArray) (hst : st = argsL.reverse ++ rest) {W : Nat} (hW : (rest.map fun v => v.category).sum ≤ W) (hf : rm.frames + 1 ≤ R.frames) (hl : W + (maxL + 11) + rm.locals ≤ R.locals) (hcl : cells + rm.cells ≤ R.cells) (hsl : slots + rm.slots ≤ R.slots) (hlen : ∀ sig, parseMethodDescriptor y.desc = some sig → argsL.length = sig.parameters.length) (hd : decode c.code pc = .ok (.invokestatic index, 3)) (hp : pc + 3 = q) (k : ∀ v T' L, Stand p l e R s m args below meth c T' (locs ++ L) (cells + rm.cells) (slots + rm.slots) → Q' v T'.heap L → Ga p e below s Q C S T' m q Ls (v.toList ++ rest)) : Ga p e below s Q C S T m pc Ls st := by
  subst hp has hst
  obtain ⟨_, _, ⟨T', L', k', n'⟩, -, X', ⟨Lc, hQ', l1, y1, z1⟩, sx⟩ := Jvm.LawKit.callS X hx (y := y) hown (mvT hZ w1) (mvT hZ w2) (mvT hZ w3) (mvT hZ w4) hy (backOf (W := W) hM hZ w4 w3 hf hl) (g := mkF m pc Ls (argsL.reverse ++ rest)) rfl hsz (argsL := argsL) (rest := rest) hlen rfl (by show 2 * 0 + _ ≤ _; omega) hd (fun _ _ => ⟨rfl, eT, hcl, hsl⟩)
  dsimp only [Pt.U, Pt.locs, Pt.cells, Pt.slots] at X' l1 y1 z1 sx hQ'
  subst l1 y1 z1
  exact Ga.stp sx (k _ T' Lc X' hQ')
variable {ka : ClassId} {ty : FieldType} {z j : Int32} {vs : List Value} {dv : Value} {a : Addr}
theorem g_baload (X : Stand p l e R s m args below meth c T locs cells slots) (hx : p.tables.exec = Jvm.exec) (hZ : Z.Warmed39 s.vm) (eT : T.heap = h) (A : Arv Z h a ka .byte z vs dv) {v : Value} (hin : ¬ j < 0 ∧ j < z) (hv : vs.getD j.toNatClampNeg dv = v) (hd : decode c.code pc = .ok (.baload, 1)) (hp : pc + 1 = q) (g : Ga p e below s Q C S T m q Ls (v :: st)) : Ga p e below s Q C S T m pc Ls (.int j :: .ref a :: st) := by
  subst hp
  obtain ⟨cl, Ar, -, Sz, N, Hs, -⟩ := A
  exact Ga.stp (fun t k => X.baloadBytes hx (j := j) (v := v) (by rw [eT]; exact Ar.1) (State.isArrayOf_alike hZ.alike Ar.2.1) Ar.2.2 (inb_of Sz hin) (Hs.at (inb_of Sz hin) hv) (g := mkF m pc Ls (.int j :: .ref a :: st)) rfl rfl hd t k) g
end GoKit

theorem own_irrI (x : Int32) : ¬ x < x := Int32.lt_irrefl
theorem own_irrJ (x : Int64) : ¬ x < x := Int64.lt_irrefl
theorem own_narc (x : Int32) : nar .char (x &&& (255 : Int32)) = (x &&& (255 : Int32)) := i2c_mask x
theorem own_nar (x : Int32) : nar .byte x = x.toInt8.toInt32 := rfl
theorem own_bb (x : Int32) : x.toInt8.toInt32.toInt8.toInt32 = x.toInt8.toInt32 := by simp
theorem own_nb {h : Heap} {b b' y : Addr} (hb : b' = b ∨ h.size ≤ b') (lt : y < h.size) (ne : y ≠ b) : y ≠ b' := hb.elim (fun q => q ▸ ne) (fun q => Nat.ne_of_lt (Nat.lt_of_lt_of_le lt q))
theorem own_ng {h : Heap} {b b' : Addr} {n0 : Nat} (hb : b' = b ∨ h.size ≤ b') (g : n0 ≤ b) (Z : n0 ≤ h.size) : n0 ≤ b' := hb.elim (fun q => q ▸ g) (fun q => Nat.le_trans Z q)
theorem own_insK {Z : State} {h h' : Heap} {a : Addr} {C : String} {ws : List Addr} (F : Ins Z h a C true) (K : Keep h h' ws) : Ins Z h' a C true := by
  obtain ⟨cell, cT, h1, h2, h3⟩ := F
  obtain ⟨c', q1, q2, q3, -⟩ := K.2.2 _ _ h1
  exact ⟨c', cT, q1, h2, by rw [q2, q3]; exact h3⟩
theorem d_prog_62_m_12_0 : decode prog_62_method_12_code 0 = .ok (.getstatic 262, 3) := by decide +kernel
theorem d_prog_62_m_12_3 : decode prog_62_method_12_code 3 = .ok (.lload_n 0, 1) := by decide +kernel
theorem d_prog_62_m_12_4 : decode prog_62_method_12_code 4 = .ok (.iconst 4, 1) := by decide +kernel
theorem d_prog_62_m_12_5 : decode prog_62_method_12_code 5 = .ok (.bipush 7, 2) := by decide +kernel
theorem d_prog_62_m_12_7 : decode prog_62_method_12_code 7 = .ok (.iload_n 2, 1) := by decide +kernel
theorem d_prog_62_m_12_8 : decode prog_62_method_12_code 8 = .ok (.isub, 1) := by decide +kernel
theorem d_prog_62_m_12_9 : decode prog_62_method_12_code 9 = .ok (.imul, 1) := by decide +kernel
theorem d_prog_62_m_12_10 : decode prog_62_method_12_code 10 = .ok (.lushr, 1) := by decide +kernel
theorem d_prog_62_m_12_11 : decode prog_62_method_12_code 11 = .ok (.l2i, 1) := by decide +kernel
theorem d_prog_62_m_12_12 : decode prog_62_method_12_code 12 = .ok (.bipush 15, 2) := by decide +kernel
theorem d_prog_62_m_12_14 : decode prog_62_method_12_code 14 = .ok (.iand, 1) := by decide +kernel
theorem d_prog_62_m_12_15 : decode prog_62_method_12_code 15 = .ok (.baload, 1) := by decide +kernel
theorem d_prog_62_m_12_16 : decode prog_62_method_12_code 16 = .ok (.ireturn, 1) := by decide +kernel
theorem d_m_2_0 : decode method_2_code 0 = .ok (.iload_n 0, 1) := by decide +kernel
theorem d_m_2_1 : decode method_2_code 1 = .ok (.bipush 48, 2) := by decide +kernel
theorem d_m_2_3 : decode method_2_code 3 = .ok (.if_icmp .lt 14, 3) := by decide +kernel
theorem d_m_2_6 : decode method_2_code 6 = .ok (.iload_n 0, 1) := by decide +kernel
theorem d_m_2_7 : decode method_2_code 7 = .ok (.bipush 57, 2) := by decide +kernel
theorem d_m_2_9 : decode method_2_code 9 = .ok (.if_icmp .gt 8, 3) := by decide +kernel
theorem d_m_2_17 : decode method_2_code 17 = .ok (.iload_n 0, 1) := by decide +kernel
theorem d_m_2_18 : decode method_2_code 18 = .ok (.bipush 97, 2) := by decide +kernel
theorem d_m_2_20 : decode method_2_code 20 = .ok (.if_icmp .lt 17, 3) := by decide +kernel
theorem d_m_2_23 : decode method_2_code 23 = .ok (.iload_n 0, 1) := by decide +kernel
theorem d_m_2_24 : decode method_2_code 24 = .ok (.bipush 102, 2) := by decide +kernel
theorem d_m_2_26 : decode method_2_code 26 = .ok (.if_icmp .gt 11, 3) := by decide +kernel
theorem d_m_2_29 : decode method_2_code 29 = .ok (.iload_n 0, 1) := by decide +kernel
theorem d_m_2_30 : decode method_2_code 30 = .ok (.bipush 97, 2) := by decide +kernel
theorem d_m_2_32 : decode method_2_code 32 = .ok (.isub, 1) := by decide +kernel
theorem d_m_2_33 : decode method_2_code 33 = .ok (.bipush 10, 2) := by decide +kernel
theorem d_m_2_35 : decode method_2_code 35 = .ok (.iadd, 1) := by decide +kernel
theorem d_m_2_36 : decode method_2_code 36 = .ok (.ireturn, 1) := by decide +kernel
theorem d_m_2_12 : decode method_2_code 12 = .ok (.iload_n 0, 1) := by decide +kernel
theorem d_m_2_13 : decode method_2_code 13 = .ok (.bipush 48, 2) := by decide +kernel
theorem d_m_2_15 : decode method_2_code 15 = .ok (.isub, 1) := by decide +kernel
theorem d_m_2_16 : decode method_2_code 16 = .ok (.ireturn, 1) := by decide +kernel
theorem pd_0 : parseMethodDescriptor "(JI)B" = some ⟨[.long, .int], some .byte⟩ := by decide +kernel
theorem pd_1 : parseMethodDescriptor "(B)I" = some ⟨[.byte], some .int⟩ := by decide +kernel
theorem pn_0 : plainName "com/example/twinsite/twinsite/log/LogCodec" = true := by first | (simp [plainName, overriddenIn]; done) | decide +kernel
theorem pn_1 : plainName "com/example/twinsite/twinsite/log/LogCodecHexDigitPinLaw" = true := by first | (simp [plainName, overriddenIn]; done) | decide +kernel
theorem own_lt32 {x y : Int32} : x < y ↔ x.toInt < y.toInt := Int32.lt_iff_toInt_lt
theorem own_eq32 {x y : Int32} : x = y ↔ x.toInt = y.toInt := Int32.toInt_inj.symm
theorem own_i0 : (0 : Int32).toInt = 0 := rfl
theorem own_i1 : (1 : Int32).toInt = 1 := rfl
theorem own_nat {j z : Int32} (h0 : ¬ j < 0) (h : j < z) : j.toNatClampNeg < z.toNatClampNeg := by
  have a := nat_of h0
  have hz : ¬ z < 0 := by rw [own_lt32] at *; rw [own_i0] at *; omega
  have b := nat_of hz
  rw [own_lt32] at h; omega
theorem own_mx {x v : Int32} (h : (x &&& (2147483647 : Int32)) = v) : ¬ v < (0 : Int32) := by
  have e := c_mask x 2147483647 31 (by decide) (by decide)
  rw [h] at e; rw [own_lt32, own_i0]; omega
theorem own_mx1 {x v : Int32} (h : (x &&& (2147483647 : Int32)) = v) (h0 : ¬ v = 0) : ¬ v < (1 : Int32) := by
  have e := c_mask x 2147483647 31 (by decide) (by decide)
  rw [h] at e; rw [own_eq32, own_i0] at h0; rw [own_lt32, own_i1]; omega
theorem own_rem3 {x v : Int32} (h0 : ¬ x < (0 : Int32)) (h : (x % (3 : Int32)) = v) : v = (0 : Int32) ∨ v = (1 : Int32) ∨ v = (2 : Int32) := by
  have e := (c_irem x 3 3 rfl).1 (by rw [own_lt32, own_i0] at h0; omega)
  rw [h] at e
  have : v.toInt = 0 ∨ v.toInt = 1 ∨ v.toInt = 2 := by omega
  rcases this with q | q | q
  · left; exact Int32.toInt_inj.mp q
  · right; left; exact Int32.toInt_inj.mp q
  · right; right; exact Int32.toInt_inj.mp q
theorem own_ushr0 (x q : Int32) (k : Nat) (hk : q.toBitVec.toNat % 32 = k) (hk0 : 0 < k) : ¬ ((x.toUInt32 >>> (q &&& 31).toUInt32).toInt32) < (0 : Int32) := by
  have e := c_iushr x q k hk hk0
  rw [own_lt32, e, own_i0]
  have : 0 ≤ (x.toInt % 4294967296) / ((2 ^ k : Nat) : Int) := Int.ediv_nonneg (Int.emod_nonneg _ (by decide)) (Int.natCast_nonneg _)
  omega
theorem own_eqi {args : Array Value} {s : State} {idx : List Nat} {t : Term} {n : Int32} (h : (Jvm.Cond.eq t (.int n)).value args s none s idx = some true) : t.eval args s none idx s = some (.int n) := by
  obtain ⟨x, y, h1, h2, h3, h4⟩ := cmp_v (Or.inl h)
  cases (Term.int_eval n).symm.trans h2
  obtain ⟨z, rfl⟩ := h4
  have e := gotT (Cond.eq_ints h1 h2) h
  subst e; exact h1
theorem own_len0 {args : Array Value} {s : State} {t : Term} {a : Addr} {cl : Cell} {ty : FieldType} {n : Int32} (A : Arr s s.heap a cl ty) (ev : t.eval args s none [] s = some (.ref a)) (hl : (Term.length t).eval args s none [] s = some (.int n)) : cl.slots.size < 2 ^ 31 ∧ cl.slots.size.toInt32 = n := by
  have h2 : s.arrayAt? a = some cl := A.fin (Vm.Alike.refl _)
  simp only [Term.eval, ev, h2, Option.bind_eq_bind, Option.bind_some] at hl
  split at hl
  · rename_i q; exact ⟨q, by simpa using hl⟩
  · cases hl
theorem own_empty {args : Array Value} {s : State} {t : Term} {a : Addr} {cl : Cell} {ty : FieldType} (hf : Fit s) (A : Arr s s.heap a cl ty) (ev : t.eval args s none [] s = some (.ref a)) (hl : (Term.length t).eval args s none [] s = some (.int 0)) : Arv s s.heap a cl.cls ty (0 : Int32) [] .null :=
  Arv.start hf A (own_len0 A ev hl).1 (own_len0 A ev hl).2 (by decide) rfl trivial
def own_hex (j : Int32) : Int32 := if j < (10 : Int32) then j + (48 : Int32) else j + (87 : Int32)
def own_j (k : Int32) (c : Int64) : Int32 := ((((c.toUInt64 >>> (k &&& 0x3f).toInt64.toUInt64).toInt64).toInt32) &&& (15 : Int32))
theorem own_16 {j : Int32} (h0 : ¬ j < (0 : Int32)) (h1 : j < (16 : Int32)) : j = (0 : Int32) ∨ j = (1 : Int32) ∨ j = (2 : Int32) ∨ j = (3 : Int32) ∨ j = (4 : Int32) ∨ j = (5 : Int32) ∨ j = (6 : Int32) ∨ j = (7 : Int32) ∨ j = (8 : Int32) ∨ j = (9 : Int32) ∨ j = (10 : Int32) ∨ j = (11 : Int32) ∨ j = (12 : Int32) ∨ j = (13 : Int32) ∨ j = (14 : Int32) ∨ j = (15 : Int32) := by
  rw [own_lt32, own_i0] at h0
  rw [own_lt32] at h1
  have e : (16 : Int32).toInt = 16 := rfl
  rw [e] at h1
  have q : j.toInt = 0 ∨ j.toInt = 1 ∨ j.toInt = 2 ∨ j.toInt = 3 ∨ j.toInt = 4 ∨ j.toInt = 5 ∨ j.toInt = 6 ∨ j.toInt = 7 ∨ j.toInt = 8 ∨ j.toInt = 9 ∨ j.toInt = 10 ∨ j.toInt = 11 ∨ j.toInt = 12 ∨ j.toInt = 13 ∨ j.toInt = 14 ∨ j.toInt = 15 := by omega
  rcases q with q | q | q | q | q | q | q | q | q | q | q | q | q | q | q | q
  · left; exact Int32.toInt_inj.mp q
  · right; left; exact Int32.toInt_inj.mp q
  · right; right; left; exact Int32.toInt_inj.mp q
  · right; right; right; left; exact Int32.toInt_inj.mp q
  · right; right; right; right; left; exact Int32.toInt_inj.mp q
  · right; right; right; right; right; left; exact Int32.toInt_inj.mp q
  · right; right; right; right; right; right; left; exact Int32.toInt_inj.mp q
  · right; right; right; right; right; right; right; left; exact Int32.toInt_inj.mp q
  · right; right; right; right; right; right; right; right; left; exact Int32.toInt_inj.mp q
  · right; right; right; right; right; right; right; right; right; left; exact Int32.toInt_inj.mp q
  · right; right; right; right; right; right; right; right; right; right; left; exact Int32.toInt_inj.mp q
  · right; right; right; right; right; right; right; right; right; right; right; left; exact Int32.toInt_inj.mp q
  · right; right; right; right; right; right; right; right; right; right; right; right; left; exact Int32.toInt_inj.mp q
  · right; right; right; right; right; right; right; right; right; right; right; right; right; left; exact Int32.toInt_inj.mp q
  · right; right; right; right; right; right; right; right; right; right; right; right; right; right; left; exact Int32.toInt_inj.mp q
  · right; right; right; right; right; right; right; right; right; right; right; right; right; right; right; exact Int32.toInt_inj.mp q
theorem own_hexat {j : Int32} (h0 : ¬ j < (0 : Int32)) (h1 : j < (16 : Int32)) : ([(.int (48 : Int32)), (.int (49 : Int32)), (.int (50 : Int32)), (.int (51 : Int32)), (.int (52 : Int32)), (.int (53 : Int32)), (.int (54 : Int32)), (.int (55 : Int32)), (.int (56 : Int32)), (.int (57 : Int32)), (.int (97 : Int32)), (.int (98 : Int32)), (.int (99 : Int32)), (.int (100 : Int32)), (.int (101 : Int32)), (.int (102 : Int32))] : List Value).getD j.toNatClampNeg (.int (0 : Int32)) = .int (own_hex j) := by
  rcases own_16 h0 h1 with rfl | rfl | rfl | rfl | rfl | rfl | rfl | rfl | rfl | rfl | rfl | rfl | rfl | rfl | rfl | rfl <;> rfl
theorem own_hexnar {j : Int32} (h0 : ¬ j < (0 : Int32)) (h1 : j < (16 : Int32)) : nar .byte (own_hex j) = own_hex j := by
  rcases own_16 h0 h1 with rfl | rfl | rfl | rfl | rfl | rfl | rfl | rfl | rfl | rfl | rfl | rfl | rfl | rfl | rfl | rfl <;> rfl
theorem own_jin (k : Int32) (c : Int64) : ¬ own_j k c < (0 : Int32) ∧ own_j k c < (16 : Int32) := by
  have e := c_mask ((((c.toUInt64 >>> (k &&& 0x3f).toInt64.toUInt64).toInt64).toInt32)) 15 4 (by decide) (by decide)
  have t : (16 : Int32).toInt = 16 := rfl
  unfold own_j
  rw [own_lt32, own_lt32, e, own_i0, t]; omega
theorem own_v1 {j : Int32} (h0 : ¬ j < (0 : Int32)) (h1 : j < (16 : Int32)) : ¬ own_hex j < (48 : Int32) ∧ ((57 : Int32) < own_hex j → ¬ own_hex j < (97 : Int32) ∧ ¬ (102 : Int32) < own_hex j ∧ own_hex j - (97 : Int32) + (10 : Int32) = j) ∧ (¬ (57 : Int32) < own_hex j → own_hex j - (48 : Int32) = j) := by
  rcases own_16 h0 h1 with rfl | rfl | rfl | rfl | rfl | rfl | rfl | rfl | rfl | rfl | rfl | rfl | rfl | rfl | rfl | rfl <;> decide
theorem own_jto (k : Int32) (n : Nat) (c : Int64) (hk : k.toBitVec.toNat % 64 = n) (h0 : 0 < n) (hc : 0 ≤ c.toInt) : (own_j k c).toInt = c.toInt / (2 ^ n : Nat) % 16 := by
  have e := c_mask ((((c.toUInt64 >>> (k &&& 0x3f).toInt64.toUInt64).toInt64).toInt32)) 15 4 (by decide) (by decide)
  have s := c_lushr c k n hk h0
  have l := c_l2i ((c.toUInt64 >>> (k &&& 0x3f).toInt64.toUInt64).toInt64)
  have r := rng64 c
  rw [s] at l
  unfold own_j
  rw [e]
  have q : c.toInt % 18446744073709551616 = c.toInt := by omega
  rw [q] at l
  generalize c.toInt / ((2 ^ n : Nat) : Int) = w at *
  omega
theorem own_jto0 (c : Int64) : (own_j (0 : Int32) c).toInt = c.toInt % 16 := by
  have e := c_mask (c.toInt32) 15 4 (by decide) (by decide)
  have l := c_l2i c
  have q : own_j (0 : Int32) c = (c.toInt32 &&& (15 : Int32)) := by
    unfold own_j
    have z : (((0 : Int32) &&& 0x3f).toInt64.toUInt64) = 0 := by decide
    rw [z]; simp
  rw [q, e]; omega
theorem own_step {a : Int64} {j : Int32} {A B : Int} (h : a.toInt = A) (hA : 0 ≤ A ∧ A < B) (hB : B ≤ 1099511627776) (hj : 0 ≤ j.toInt ∧ j.toInt < 16) : (a * 16 + j.toInt64).toInt = A * 16 + j.toInt ∧ 0 ≤ A * 16 + j.toInt ∧ A * 16 + j.toInt < 16 * B := by
  have c1 := c_lmul a 16
  have c2 := c_ladd (a * 16) j.toInt64
  have r1 := rng64 (a * 16)
  have r2 := rng64 (a * 16 + j.toInt64)
  have e : (16 : Int64).toInt = 16 := rfl
  rw [e, h] at c1
  rw [c_i2l] at c2
  omega
theorem own_plain {c : Int} (h0 : 0 ≤ c) (h1 : c < 4294967296) : (((((((c / 268435456 % 16) * 16 + c / 16777216 % 16) * 16 + c / 1048576 % 16) * 16 + c / 65536 % 16) * 16 + c / 4096 % 16) * 16 + c / 256 % 16) * 16 + c / 16 % 16) * 16 + c % 16 = c := by
  have b7 : 0 ≤ c / 268435456 ∧ c / 268435456 < 16 := by omega
  have e28 : c / 268435456 = c / 16777216 / 16 := by omega
  have e24 : c / 16777216 = c / 1048576 / 16 := by omega
  have e20 : c / 1048576 = c / 65536 / 16 := by omega
  have e16 : c / 65536 = c / 4096 / 16 := by omega
  have e12 : c / 4096 = c / 256 / 16 := by omega
  have e8 : c / 256 = c / 16 / 16 := by omega
  generalize c / 268435456 = d28 at *
  generalize c / 16777216 = d24 at *
  generalize c / 1048576 = d20 at *
  generalize c / 65536 = d16 at *
  generalize c / 4096 = d12 at *
  generalize c / 256 = d8 at *
  have e4 : c / 16 = c / 16 := rfl
  generalize hd4 : c / 16 = d4 at *
  omega
theorem own_jb (k : Int32) (c : Int64) : 0 ≤ (own_j k c).toInt ∧ (own_j k c).toInt < 16 := by
  have h := own_jin k c
  have e : (16 : Int32).toInt = 16 := rfl
  rw [own_lt32, own_lt32, own_i0, e] at h
  omega
theorem own_bd0 {x : Int} (h : 0 ≤ x ∧ x < 16) : 0 ≤ x ∧ x < 16 := h
theorem own_sum {c : Int64} (h : ∃ x : Int64, (x &&& (4294967295 : Int64)) = c) : ((((((((((own_j (28 : Int32) c).toInt64 * 16 + (own_j (24 : Int32) c).toInt64) * 16 + (own_j (20 : Int32) c).toInt64) * 16 + (own_j (16 : Int32) c).toInt64) * 16) + (own_j (12 : Int32) c).toInt64) * 16 + (own_j (8 : Int32) c).toInt64) * 16 + (own_j (4 : Int32) c).toInt64) * 16 + (own_j (0 : Int32) c).toInt64)) = c := by
  obtain ⟨x, hx⟩ := h
  have m := c_maskL x 4294967295 32 (by decide) (by decide)
  rw [hx] at m
  have m32 : ((2 ^ 32 : Nat) : Int) = 4294967296 := rfl
  rw [m32] at m
  have hc : 0 ≤ c.toInt ∧ c.toInt < 4294967296 := by omega
  have j28 : (own_j (28 : Int32) c).toInt = c.toInt / 268435456 % 16 := own_jto 28 28 c (by decide) (by decide) hc.1
  have j24 : (own_j (24 : Int32) c).toInt = c.toInt / 16777216 % 16 := own_jto 24 24 c (by decide) (by decide) hc.1
  have j20 : (own_j (20 : Int32) c).toInt = c.toInt / 1048576 % 16 := own_jto 20 20 c (by decide) (by decide) hc.1
  have j16 : (own_j (16 : Int32) c).toInt = c.toInt / 65536 % 16 := own_jto 16 16 c (by decide) (by decide) hc.1
  have j12 : (own_j (12 : Int32) c).toInt = c.toInt / 4096 % 16 := own_jto 12 12 c (by decide) (by decide) hc.1
  have j8 : (own_j (8 : Int32) c).toInt = c.toInt / 256 % 16 := own_jto 8 8 c (by decide) (by decide) hc.1
  have j4 : (own_j (4 : Int32) c).toInt = c.toInt / 16 % 16 := own_jto 4 4 c (by decide) (by decide) hc.1
  have j0 := own_jto0 c
  have g := fun k => own_jb k c
  have b7 := own_bd0 (g 28)
  have s6 := own_step (a := (own_j (28 : Int32) c).toInt64) (j := own_j (24 : Int32) c) (B := 16) (c_i2l _) b7 (by decide) (g 24)
  have s5 := own_step (j := own_j (20 : Int32) c) (B := 256) s6.1 s6.2 (by decide) (g 20)
  have s4 := own_step (j := own_j (16 : Int32) c) (B := 4096) s5.1 s5.2 (by decide) (g 16)
  have s3 := own_step (j := own_j (12 : Int32) c) (B := 65536) s4.1 s4.2 (by decide) (g 12)
  have s2 := own_step (j := own_j (8 : Int32) c) (B := 1048576) s3.1 s3.2 (by decide) (g 8)
  have s1 := own_step (j := own_j (4 : Int32) c) (B := 16777216) s2.1 s2.2 (by decide) (g 4)
  have s0 := own_step (j := own_j (0 : Int32) c) (B := 268435456) s1.1 s1.2 (by decide) (g 0)
  apply Int64.toInt_inj.mp
  rw [s0.1, j28, j24, j20, j16, j12, j8, j4, j0]
  exact own_plain hc.1 hc.2
theorem own_fold {f : Nat → Option Bool} {g : Option Bool → Nat → Option Bool} (h1 : ∀ i, g (some true) i = f i) (h2 : ∀ i, g none i = none ∧ g (some false) i = some false) : ∀ (l : List Nat) (a : Option Bool), l.foldl g a = some true → a = some true ∧ ∀ i ∈ l, f i = some true := by
  intro l
  induction l with
  | nil => intro a h; exact ⟨h, fun i hi => by cases hi⟩
  | cons i r ih =>
    intro a h
    obtain ⟨q1, q2⟩ := ih _ h
    cases a with
    | none => rw [(h2 i).1] at q1; cases q1
    | some b =>
      cases b with
      | false => rw [(h2 i).2] at q1; cases q1
      | true =>
        rw [h1] at q1
        exact ⟨rfl, fun j hj => by rcases List.mem_cons.mp hj with rfl | hj; · exact q1
                                   · exact q2 j hj⟩
theorem own_all {args : Array Value} {s : State} {t : Term} {c : Jvm.Cond} {a : Addr} {cl : Cell} {ty : FieldType} (A : Arr s s.heap a cl ty) (ev : t.eval args s none [] s = some (.ref a)) (h : (Jvm.Cond.all t c).value args s none s [] = some true) (i : Nat) (hi : i < cl.slots.size) : c.value args s none s [i] = some true := by
  have h2 : s.arrayAt? a = some cl := A.fin (Vm.Alike.refl _)
  simp only [Cond.value, ev, h2] at h
  exact (own_fold (f := fun i => c.value args s none s [i]) (fun i => rfl) (fun i => ⟨rfl, rfl⟩) _ _ h).2 i (List.mem_range.mpr hi)
theorem own_or {args : Array Value} {s : State} {idx : List Nat} {a b : Jvm.Cond} (ha : a.value args s none s idx = some false) (h : (Jvm.Cond.or a b).value args s none s idx = some true) : b.value args s none s idx = some true := by
  simp only [Cond.value, ha] at h; exact h
theorem own_hexel {args : Array Value} {s : State} {t : Term} {a : Addr} {cl : Cell} {i : Nat} {k : Int64} {r : Int32} (A : Arr s s.heap a cl .byte) (evi : t.eval args s none [i] s = some (.ref a)) (hin : i.toInt32.toNatClampNeg = i) (hr : (i.toInt32.toInt64 + k).toInt = r.toInt)
    (h : (Jvm.Cond.eq (.op1 .i2l (.elem t (.index 0))) (.op2 .ladd (.op1 .i2l (.index 0)) (.long k))).value args s none s [i] = some true) : cl.slots[i]? = some (.int r) := by
  obtain ⟨x, y, h1, h2, h3, h4⟩ := cmp_v (Or.inl h)
  obtain ⟨ex, g1, g2⟩ := op1_v h1
  have i0 : (Term.index 0).eval args s none [i] s = some (.int i.toInt32) := rfl
  have ey : (Term.op2 .ladd (.op1 .i2l (.index 0)) (.long k)).eval args s none [i] s = some (.long (i.toInt32.toInt64 + k)) := rfl
  have hy := Option.some.inj (ey.symm.trans h2)
  subst hy
  obtain ⟨z, rfl⟩ := h4
  cases ex with
  | int v =>
    have e2 : z = v.toInt64 := by
      have := Option.some.inj g2
      exact (Value.long.inj this).symm
    subst e2
    have q := gotT (eq_L h1 h2) h
    have qv : v = r := Int32.toInt_inj.mp ((c_i2l v).symm.trans ((congrArg Int64.toInt q).trans hr))
    have w := (elem_in g1 evi i0 A.1).2
    rw [hin] at w
    rw [w, qv]
  | _ => simp [Unary.apply] at g2

def Q_hex0 (Z : State) (cc : Int64) (ha : Addr) (kh : ClassId) (h0 : Heap) (n0 : Nat) (v : Option Value) (h : Heap) (L : List Loc) : Prop := v = some (.int (own_hex (own_j (28 : Int32) cc))) ∧ Fr n0 L ∧ h = h0
theorem ef_hex0 (m : MethodId) (x0 : Int64) (x1 : Int32) : entryFrame m #[(.long x0), (.int x1)] 3 = mkF m 0 #[.val (.long x0), .second, .val (.int x1)] [] := by first | (simp [entryFrame, mkF, argsToLocals, Value.category]; done) | rfl
set_option maxRecDepth 65536 in
set_option maxHeartbeats 40000000 in
theorem rm_hex0 (l : Launch) (Z : State) (a0 : Array Value) (hw : ∀ d ∈ tables_1, d.before a0 Z = true) (cc : Int64) (ha : Addr) (kh : ClassId) (h0 : Heap) (n0 : Nat) (Z0 : n0 ≤ h0.size) (old0 : Old Z n0 h0) (S0_HEX : Sta Z Z.heap "com/example/twinsite/twinsite/log/LogCodec" "HEX" "[B" (.ref ha)) (V0_ha : Arv Z Z.heap ha kh .byte (16 : Int32) [(.int (48 : Int32)), (.int (49 : Int32)), (.int (50 : Int32)), (.int (51 : Int32)), (.int (52 : Int32)), (.int (53 : Int32)), (.int (54 : Int32)), (.int (55 : Int32)), (.int (56 : Int32)), (.int (57 : Int32)), (.int (97 : Int32)), (.int (98 : Int32)), (.int (99 : Int32)), (.int (100 : Int32)), (.int (101 : Int32)), (.int (102 : Int32))] (.int (0 : Int32))) :
    Ct l Z (⟨"com/example/twinsite/twinsite/log/LogCodec", "hexDigit", "(JI)B"⟩ : MethodName) prog_62_method_12_code 3 (some .byte) [] ({ frames := 0, cells := 0, slots := 0, locals := 0 } : Room) #[(.long cc), (.int (0 : Int32))] h0 (Q_hex0 Z cc ha kh h0 n0) := by
  refine own_body (plainFor_of_name pn_0) (fun m => ef_hex0 m cc (0 : Int32)) ?_
  intro p e s m below meth c T0 hx hby hml hZ hown hnm hret hlk X0 e0
  have N0 := Fr.nil n0
  refine g_getS X0 hx hZ hown (host := "") (Or.inl (hw _ (List.mem_of_getElem? (i := 5) rfl))) Via.refl e0 (Sta.ext old0.2 S0_HEX) (hb hby d_prog_62_m_12_0) rfl fun T1 X1 e1 => ?_
  refine g_lloadN X1 hx (hb hby d_prog_62_m_12_3) rfl rfl ?_
  refine g_iconst X1 hx (r := (4 : Int32)) (hb hby d_prog_62_m_12_4) rfl rfl ?_
  refine g_bipush X1 hx (r := (7 : Int32)) (hb hby d_prog_62_m_12_5) rfl rfl ?_
  refine g_iloadN X1 hx (hb hby d_prog_62_m_12_7) rfl rfl ?_
  refine g_isub X1 hx (r := (7 : Int32)) (hb hby d_prog_62_m_12_8) rfl rfl ?_
  refine g_imul X1 hx (r := (28 : Int32)) (hb hby d_prog_62_m_12_9) rfl rfl ?_
  refine g_lushr X1 hx (hb hby d_prog_62_m_12_10) rfl rfl ?_
  refine g_l2i X1 hx (hb hby d_prog_62_m_12_11) rfl rfl ?_
  refine g_bipush X1 hx (r := (15 : Int32)) (hb hby d_prog_62_m_12_12) rfl rfl ?_
  refine g_iand X1 hx (hb hby d_prog_62_m_12_14) rfl rfl ?_
  refine g_baload X1 hx hZ e1 (V0_ha.ext old0.2) (v := (.int (own_hex (own_j (28 : Int32) cc)))) (own_jin _ _) (own_hexat (own_jin _ _).1 (own_jin _ _).2) (hb hby d_prog_62_m_12_15) rfl ?_
  exact g_retN X1 hx (t := .byte) (r := own_hex (own_j (28 : Int32) cc)) hret (by simp) hlk (hb hby d_prog_62_m_12_16) (own_hexnar (own_jin _ _).1 (own_jin _ _).2) (by decide) (by decide) (by rw [e1]; exact ⟨rfl, N0, rfl⟩)
def Q_hex1 (Z : State) (cc : Int64) (ha : Addr) (kh : ClassId) (h0 : Heap) (n0 : Nat) (v : Option Value) (h : Heap) (L : List Loc) : Prop := v = some (.int (own_hex (own_j (24 : Int32) cc))) ∧ Fr n0 L ∧ h = h0
theorem ef_hex1 (m : MethodId) (x0 : Int64) (x1 : Int32) : entryFrame m #[(.long x0), (.int x1)] 3 = mkF m 0 #[.val (.long x0), .second, .val (.int x1)] [] := by first | (simp [entryFrame, mkF, argsToLocals, Value.category]; done) | rfl
set_option maxRecDepth 65536 in
set_option maxHeartbeats 40000000 in
theorem rm_hex1 (l : Launch) (Z : State) (a0 : Array Value) (hw : ∀ d ∈ tables_1, d.before a0 Z = true) (cc : Int64) (ha : Addr) (kh : ClassId) (h0 : Heap) (n0 : Nat) (Z0 : n0 ≤ h0.size) (old0 : Old Z n0 h0) (S0_HEX : Sta Z Z.heap "com/example/twinsite/twinsite/log/LogCodec" "HEX" "[B" (.ref ha)) (V0_ha : Arv Z Z.heap ha kh .byte (16 : Int32) [(.int (48 : Int32)), (.int (49 : Int32)), (.int (50 : Int32)), (.int (51 : Int32)), (.int (52 : Int32)), (.int (53 : Int32)), (.int (54 : Int32)), (.int (55 : Int32)), (.int (56 : Int32)), (.int (57 : Int32)), (.int (97 : Int32)), (.int (98 : Int32)), (.int (99 : Int32)), (.int (100 : Int32)), (.int (101 : Int32)), (.int (102 : Int32))] (.int (0 : Int32))) :
    Ct l Z (⟨"com/example/twinsite/twinsite/log/LogCodec", "hexDigit", "(JI)B"⟩ : MethodName) prog_62_method_12_code 3 (some .byte) [] ({ frames := 0, cells := 0, slots := 0, locals := 0 } : Room) #[(.long cc), (.int (1 : Int32))] h0 (Q_hex1 Z cc ha kh h0 n0) := by
  refine own_body (plainFor_of_name pn_0) (fun m => ef_hex1 m cc (1 : Int32)) ?_
  intro p e s m below meth c T0 hx hby hml hZ hown hnm hret hlk X0 e0
  have N0 := Fr.nil n0
  refine g_getS X0 hx hZ hown (host := "") (Or.inl (hw _ (List.mem_of_getElem? (i := 5) rfl))) Via.refl e0 (Sta.ext old0.2 S0_HEX) (hb hby d_prog_62_m_12_0) rfl fun T1 X1 e1 => ?_
  refine g_lloadN X1 hx (hb hby d_prog_62_m_12_3) rfl rfl ?_
  refine g_iconst X1 hx (r := (4 : Int32)) (hb hby d_prog_62_m_12_4) rfl rfl ?_
  refine g_bipush X1 hx (r := (7 : Int32)) (hb hby d_prog_62_m_12_5) rfl rfl ?_
  refine g_iloadN X1 hx (hb hby d_prog_62_m_12_7) rfl rfl ?_
  refine g_isub X1 hx (r := (6 : Int32)) (hb hby d_prog_62_m_12_8) rfl rfl ?_
  refine g_imul X1 hx (r := (24 : Int32)) (hb hby d_prog_62_m_12_9) rfl rfl ?_
  refine g_lushr X1 hx (hb hby d_prog_62_m_12_10) rfl rfl ?_
  refine g_l2i X1 hx (hb hby d_prog_62_m_12_11) rfl rfl ?_
  refine g_bipush X1 hx (r := (15 : Int32)) (hb hby d_prog_62_m_12_12) rfl rfl ?_
  refine g_iand X1 hx (hb hby d_prog_62_m_12_14) rfl rfl ?_
  refine g_baload X1 hx hZ e1 (V0_ha.ext old0.2) (v := (.int (own_hex (own_j (24 : Int32) cc)))) (own_jin _ _) (own_hexat (own_jin _ _).1 (own_jin _ _).2) (hb hby d_prog_62_m_12_15) rfl ?_
  exact g_retN X1 hx (t := .byte) (r := own_hex (own_j (24 : Int32) cc)) hret (by simp) hlk (hb hby d_prog_62_m_12_16) (own_hexnar (own_jin _ _).1 (own_jin _ _).2) (by decide) (by decide) (by rw [e1]; exact ⟨rfl, N0, rfl⟩)
def Q_hex2 (Z : State) (cc : Int64) (ha : Addr) (kh : ClassId) (h0 : Heap) (n0 : Nat) (v : Option Value) (h : Heap) (L : List Loc) : Prop := v = some (.int (own_hex (own_j (20 : Int32) cc))) ∧ Fr n0 L ∧ h = h0
theorem ef_hex2 (m : MethodId) (x0 : Int64) (x1 : Int32) : entryFrame m #[(.long x0), (.int x1)] 3 = mkF m 0 #[.val (.long x0), .second, .val (.int x1)] [] := by first | (simp [entryFrame, mkF, argsToLocals, Value.category]; done) | rfl
set_option maxRecDepth 65536 in
set_option maxHeartbeats 40000000 in
theorem rm_hex2 (l : Launch) (Z : State) (a0 : Array Value) (hw : ∀ d ∈ tables_1, d.before a0 Z = true) (cc : Int64) (ha : Addr) (kh : ClassId) (h0 : Heap) (n0 : Nat) (Z0 : n0 ≤ h0.size) (old0 : Old Z n0 h0) (S0_HEX : Sta Z Z.heap "com/example/twinsite/twinsite/log/LogCodec" "HEX" "[B" (.ref ha)) (V0_ha : Arv Z Z.heap ha kh .byte (16 : Int32) [(.int (48 : Int32)), (.int (49 : Int32)), (.int (50 : Int32)), (.int (51 : Int32)), (.int (52 : Int32)), (.int (53 : Int32)), (.int (54 : Int32)), (.int (55 : Int32)), (.int (56 : Int32)), (.int (57 : Int32)), (.int (97 : Int32)), (.int (98 : Int32)), (.int (99 : Int32)), (.int (100 : Int32)), (.int (101 : Int32)), (.int (102 : Int32))] (.int (0 : Int32))) :
    Ct l Z (⟨"com/example/twinsite/twinsite/log/LogCodec", "hexDigit", "(JI)B"⟩ : MethodName) prog_62_method_12_code 3 (some .byte) [] ({ frames := 0, cells := 0, slots := 0, locals := 0 } : Room) #[(.long cc), (.int (2 : Int32))] h0 (Q_hex2 Z cc ha kh h0 n0) := by
  refine own_body (plainFor_of_name pn_0) (fun m => ef_hex2 m cc (2 : Int32)) ?_
  intro p e s m below meth c T0 hx hby hml hZ hown hnm hret hlk X0 e0
  have N0 := Fr.nil n0
  refine g_getS X0 hx hZ hown (host := "") (Or.inl (hw _ (List.mem_of_getElem? (i := 5) rfl))) Via.refl e0 (Sta.ext old0.2 S0_HEX) (hb hby d_prog_62_m_12_0) rfl fun T1 X1 e1 => ?_
  refine g_lloadN X1 hx (hb hby d_prog_62_m_12_3) rfl rfl ?_
  refine g_iconst X1 hx (r := (4 : Int32)) (hb hby d_prog_62_m_12_4) rfl rfl ?_
  refine g_bipush X1 hx (r := (7 : Int32)) (hb hby d_prog_62_m_12_5) rfl rfl ?_
  refine g_iloadN X1 hx (hb hby d_prog_62_m_12_7) rfl rfl ?_
  refine g_isub X1 hx (r := (5 : Int32)) (hb hby d_prog_62_m_12_8) rfl rfl ?_
  refine g_imul X1 hx (r := (20 : Int32)) (hb hby d_prog_62_m_12_9) rfl rfl ?_
  refine g_lushr X1 hx (hb hby d_prog_62_m_12_10) rfl rfl ?_
  refine g_l2i X1 hx (hb hby d_prog_62_m_12_11) rfl rfl ?_
  refine g_bipush X1 hx (r := (15 : Int32)) (hb hby d_prog_62_m_12_12) rfl rfl ?_
  refine g_iand X1 hx (hb hby d_prog_62_m_12_14) rfl rfl ?_
  refine g_baload X1 hx hZ e1 (V0_ha.ext old0.2) (v := (.int (own_hex (own_j (20 : Int32) cc)))) (own_jin _ _) (own_hexat (own_jin _ _).1 (own_jin _ _).2) (hb hby d_prog_62_m_12_15) rfl ?_
  exact g_retN X1 hx (t := .byte) (r := own_hex (own_j (20 : Int32) cc)) hret (by simp) hlk (hb hby d_prog_62_m_12_16) (own_hexnar (own_jin _ _).1 (own_jin _ _).2) (by decide) (by decide) (by rw [e1]; exact ⟨rfl, N0, rfl⟩)
def Q_hex3 (Z : State) (cc : Int64) (ha : Addr) (kh : ClassId) (h0 : Heap) (n0 : Nat) (v : Option Value) (h : Heap) (L : List Loc) : Prop := v = some (.int (own_hex (own_j (16 : Int32) cc))) ∧ Fr n0 L ∧ h = h0
theorem ef_hex3 (m : MethodId) (x0 : Int64) (x1 : Int32) : entryFrame m #[(.long x0), (.int x1)] 3 = mkF m 0 #[.val (.long x0), .second, .val (.int x1)] [] := by first | (simp [entryFrame, mkF, argsToLocals, Value.category]; done) | rfl
set_option maxRecDepth 65536 in
set_option maxHeartbeats 40000000 in
theorem rm_hex3 (l : Launch) (Z : State) (a0 : Array Value) (hw : ∀ d ∈ tables_1, d.before a0 Z = true) (cc : Int64) (ha : Addr) (kh : ClassId) (h0 : Heap) (n0 : Nat) (Z0 : n0 ≤ h0.size) (old0 : Old Z n0 h0) (S0_HEX : Sta Z Z.heap "com/example/twinsite/twinsite/log/LogCodec" "HEX" "[B" (.ref ha)) (V0_ha : Arv Z Z.heap ha kh .byte (16 : Int32) [(.int (48 : Int32)), (.int (49 : Int32)), (.int (50 : Int32)), (.int (51 : Int32)), (.int (52 : Int32)), (.int (53 : Int32)), (.int (54 : Int32)), (.int (55 : Int32)), (.int (56 : Int32)), (.int (57 : Int32)), (.int (97 : Int32)), (.int (98 : Int32)), (.int (99 : Int32)), (.int (100 : Int32)), (.int (101 : Int32)), (.int (102 : Int32))] (.int (0 : Int32))) :
    Ct l Z (⟨"com/example/twinsite/twinsite/log/LogCodec", "hexDigit", "(JI)B"⟩ : MethodName) prog_62_method_12_code 3 (some .byte) [] ({ frames := 0, cells := 0, slots := 0, locals := 0 } : Room) #[(.long cc), (.int (3 : Int32))] h0 (Q_hex3 Z cc ha kh h0 n0) := by
  refine own_body (plainFor_of_name pn_0) (fun m => ef_hex3 m cc (3 : Int32)) ?_
  intro p e s m below meth c T0 hx hby hml hZ hown hnm hret hlk X0 e0
  have N0 := Fr.nil n0
  refine g_getS X0 hx hZ hown (host := "") (Or.inl (hw _ (List.mem_of_getElem? (i := 5) rfl))) Via.refl e0 (Sta.ext old0.2 S0_HEX) (hb hby d_prog_62_m_12_0) rfl fun T1 X1 e1 => ?_
  refine g_lloadN X1 hx (hb hby d_prog_62_m_12_3) rfl rfl ?_
  refine g_iconst X1 hx (r := (4 : Int32)) (hb hby d_prog_62_m_12_4) rfl rfl ?_
  refine g_bipush X1 hx (r := (7 : Int32)) (hb hby d_prog_62_m_12_5) rfl rfl ?_
  refine g_iloadN X1 hx (hb hby d_prog_62_m_12_7) rfl rfl ?_
  refine g_isub X1 hx (r := (4 : Int32)) (hb hby d_prog_62_m_12_8) rfl rfl ?_
  refine g_imul X1 hx (r := (16 : Int32)) (hb hby d_prog_62_m_12_9) rfl rfl ?_
  refine g_lushr X1 hx (hb hby d_prog_62_m_12_10) rfl rfl ?_
  refine g_l2i X1 hx (hb hby d_prog_62_m_12_11) rfl rfl ?_
  refine g_bipush X1 hx (r := (15 : Int32)) (hb hby d_prog_62_m_12_12) rfl rfl ?_
  refine g_iand X1 hx (hb hby d_prog_62_m_12_14) rfl rfl ?_
  refine g_baload X1 hx hZ e1 (V0_ha.ext old0.2) (v := (.int (own_hex (own_j (16 : Int32) cc)))) (own_jin _ _) (own_hexat (own_jin _ _).1 (own_jin _ _).2) (hb hby d_prog_62_m_12_15) rfl ?_
  exact g_retN X1 hx (t := .byte) (r := own_hex (own_j (16 : Int32) cc)) hret (by simp) hlk (hb hby d_prog_62_m_12_16) (own_hexnar (own_jin _ _).1 (own_jin _ _).2) (by decide) (by decide) (by rw [e1]; exact ⟨rfl, N0, rfl⟩)
def Q_hex4 (Z : State) (cc : Int64) (ha : Addr) (kh : ClassId) (h0 : Heap) (n0 : Nat) (v : Option Value) (h : Heap) (L : List Loc) : Prop := v = some (.int (own_hex (own_j (12 : Int32) cc))) ∧ Fr n0 L ∧ h = h0
theorem ef_hex4 (m : MethodId) (x0 : Int64) (x1 : Int32) : entryFrame m #[(.long x0), (.int x1)] 3 = mkF m 0 #[.val (.long x0), .second, .val (.int x1)] [] := by first | (simp [entryFrame, mkF, argsToLocals, Value.category]; done) | rfl
set_option maxRecDepth 65536 in
set_option maxHeartbeats 40000000 in
theorem rm_hex4 (l : Launch) (Z : State) (a0 : Array Value) (hw : ∀ d ∈ tables_1, d.before a0 Z = true) (cc : Int64) (ha : Addr) (kh : ClassId) (h0 : Heap) (n0 : Nat) (Z0 : n0 ≤ h0.size) (old0 : Old Z n0 h0) (S0_HEX : Sta Z Z.heap "com/example/twinsite/twinsite/log/LogCodec" "HEX" "[B" (.ref ha)) (V0_ha : Arv Z Z.heap ha kh .byte (16 : Int32) [(.int (48 : Int32)), (.int (49 : Int32)), (.int (50 : Int32)), (.int (51 : Int32)), (.int (52 : Int32)), (.int (53 : Int32)), (.int (54 : Int32)), (.int (55 : Int32)), (.int (56 : Int32)), (.int (57 : Int32)), (.int (97 : Int32)), (.int (98 : Int32)), (.int (99 : Int32)), (.int (100 : Int32)), (.int (101 : Int32)), (.int (102 : Int32))] (.int (0 : Int32))) :
    Ct l Z (⟨"com/example/twinsite/twinsite/log/LogCodec", "hexDigit", "(JI)B"⟩ : MethodName) prog_62_method_12_code 3 (some .byte) [] ({ frames := 0, cells := 0, slots := 0, locals := 0 } : Room) #[(.long cc), (.int (4 : Int32))] h0 (Q_hex4 Z cc ha kh h0 n0) := by
  refine own_body (plainFor_of_name pn_0) (fun m => ef_hex4 m cc (4 : Int32)) ?_
  intro p e s m below meth c T0 hx hby hml hZ hown hnm hret hlk X0 e0
  have N0 := Fr.nil n0
  refine g_getS X0 hx hZ hown (host := "") (Or.inl (hw _ (List.mem_of_getElem? (i := 5) rfl))) Via.refl e0 (Sta.ext old0.2 S0_HEX) (hb hby d_prog_62_m_12_0) rfl fun T1 X1 e1 => ?_
  refine g_lloadN X1 hx (hb hby d_prog_62_m_12_3) rfl rfl ?_
  refine g_iconst X1 hx (r := (4 : Int32)) (hb hby d_prog_62_m_12_4) rfl rfl ?_
  refine g_bipush X1 hx (r := (7 : Int32)) (hb hby d_prog_62_m_12_5) rfl rfl ?_
  refine g_iloadN X1 hx (hb hby d_prog_62_m_12_7) rfl rfl ?_
  refine g_isub X1 hx (r := (3 : Int32)) (hb hby d_prog_62_m_12_8) rfl rfl ?_
  refine g_imul X1 hx (r := (12 : Int32)) (hb hby d_prog_62_m_12_9) rfl rfl ?_
  refine g_lushr X1 hx (hb hby d_prog_62_m_12_10) rfl rfl ?_
  refine g_l2i X1 hx (hb hby d_prog_62_m_12_11) rfl rfl ?_
  refine g_bipush X1 hx (r := (15 : Int32)) (hb hby d_prog_62_m_12_12) rfl rfl ?_
  refine g_iand X1 hx (hb hby d_prog_62_m_12_14) rfl rfl ?_
  refine g_baload X1 hx hZ e1 (V0_ha.ext old0.2) (v := (.int (own_hex (own_j (12 : Int32) cc)))) (own_jin _ _) (own_hexat (own_jin _ _).1 (own_jin _ _).2) (hb hby d_prog_62_m_12_15) rfl ?_
  exact g_retN X1 hx (t := .byte) (r := own_hex (own_j (12 : Int32) cc)) hret (by simp) hlk (hb hby d_prog_62_m_12_16) (own_hexnar (own_jin _ _).1 (own_jin _ _).2) (by decide) (by decide) (by rw [e1]; exact ⟨rfl, N0, rfl⟩)
def Q_hex5 (Z : State) (cc : Int64) (ha : Addr) (kh : ClassId) (h0 : Heap) (n0 : Nat) (v : Option Value) (h : Heap) (L : List Loc) : Prop := v = some (.int (own_hex (own_j (8 : Int32) cc))) ∧ Fr n0 L ∧ h = h0
theorem ef_hex5 (m : MethodId) (x0 : Int64) (x1 : Int32) : entryFrame m #[(.long x0), (.int x1)] 3 = mkF m 0 #[.val (.long x0), .second, .val (.int x1)] [] := by first | (simp [entryFrame, mkF, argsToLocals, Value.category]; done) | rfl
set_option maxRecDepth 65536 in
set_option maxHeartbeats 40000000 in
theorem rm_hex5 (l : Launch) (Z : State) (a0 : Array Value) (hw : ∀ d ∈ tables_1, d.before a0 Z = true) (cc : Int64) (ha : Addr) (kh : ClassId) (h0 : Heap) (n0 : Nat) (Z0 : n0 ≤ h0.size) (old0 : Old Z n0 h0) (S0_HEX : Sta Z Z.heap "com/example/twinsite/twinsite/log/LogCodec" "HEX" "[B" (.ref ha)) (V0_ha : Arv Z Z.heap ha kh .byte (16 : Int32) [(.int (48 : Int32)), (.int (49 : Int32)), (.int (50 : Int32)), (.int (51 : Int32)), (.int (52 : Int32)), (.int (53 : Int32)), (.int (54 : Int32)), (.int (55 : Int32)), (.int (56 : Int32)), (.int (57 : Int32)), (.int (97 : Int32)), (.int (98 : Int32)), (.int (99 : Int32)), (.int (100 : Int32)), (.int (101 : Int32)), (.int (102 : Int32))] (.int (0 : Int32))) :
    Ct l Z (⟨"com/example/twinsite/twinsite/log/LogCodec", "hexDigit", "(JI)B"⟩ : MethodName) prog_62_method_12_code 3 (some .byte) [] ({ frames := 0, cells := 0, slots := 0, locals := 0 } : Room) #[(.long cc), (.int (5 : Int32))] h0 (Q_hex5 Z cc ha kh h0 n0) := by
  refine own_body (plainFor_of_name pn_0) (fun m => ef_hex5 m cc (5 : Int32)) ?_
  intro p e s m below meth c T0 hx hby hml hZ hown hnm hret hlk X0 e0
  have N0 := Fr.nil n0
  refine g_getS X0 hx hZ hown (host := "") (Or.inl (hw _ (List.mem_of_getElem? (i := 5) rfl))) Via.refl e0 (Sta.ext old0.2 S0_HEX) (hb hby d_prog_62_m_12_0) rfl fun T1 X1 e1 => ?_
  refine g_lloadN X1 hx (hb hby d_prog_62_m_12_3) rfl rfl ?_
  refine g_iconst X1 hx (r := (4 : Int32)) (hb hby d_prog_62_m_12_4) rfl rfl ?_
  refine g_bipush X1 hx (r := (7 : Int32)) (hb hby d_prog_62_m_12_5) rfl rfl ?_
  refine g_iloadN X1 hx (hb hby d_prog_62_m_12_7) rfl rfl ?_
  refine g_isub X1 hx (r := (2 : Int32)) (hb hby d_prog_62_m_12_8) rfl rfl ?_
  refine g_imul X1 hx (r := (8 : Int32)) (hb hby d_prog_62_m_12_9) rfl rfl ?_
  refine g_lushr X1 hx (hb hby d_prog_62_m_12_10) rfl rfl ?_
  refine g_l2i X1 hx (hb hby d_prog_62_m_12_11) rfl rfl ?_
  refine g_bipush X1 hx (r := (15 : Int32)) (hb hby d_prog_62_m_12_12) rfl rfl ?_
  refine g_iand X1 hx (hb hby d_prog_62_m_12_14) rfl rfl ?_
  refine g_baload X1 hx hZ e1 (V0_ha.ext old0.2) (v := (.int (own_hex (own_j (8 : Int32) cc)))) (own_jin _ _) (own_hexat (own_jin _ _).1 (own_jin _ _).2) (hb hby d_prog_62_m_12_15) rfl ?_
  exact g_retN X1 hx (t := .byte) (r := own_hex (own_j (8 : Int32) cc)) hret (by simp) hlk (hb hby d_prog_62_m_12_16) (own_hexnar (own_jin _ _).1 (own_jin _ _).2) (by decide) (by decide) (by rw [e1]; exact ⟨rfl, N0, rfl⟩)
def Q_hex6 (Z : State) (cc : Int64) (ha : Addr) (kh : ClassId) (h0 : Heap) (n0 : Nat) (v : Option Value) (h : Heap) (L : List Loc) : Prop := v = some (.int (own_hex (own_j (4 : Int32) cc))) ∧ Fr n0 L ∧ h = h0
theorem ef_hex6 (m : MethodId) (x0 : Int64) (x1 : Int32) : entryFrame m #[(.long x0), (.int x1)] 3 = mkF m 0 #[.val (.long x0), .second, .val (.int x1)] [] := by first | (simp [entryFrame, mkF, argsToLocals, Value.category]; done) | rfl
set_option maxRecDepth 65536 in
set_option maxHeartbeats 40000000 in
theorem rm_hex6 (l : Launch) (Z : State) (a0 : Array Value) (hw : ∀ d ∈ tables_1, d.before a0 Z = true) (cc : Int64) (ha : Addr) (kh : ClassId) (h0 : Heap) (n0 : Nat) (Z0 : n0 ≤ h0.size) (old0 : Old Z n0 h0) (S0_HEX : Sta Z Z.heap "com/example/twinsite/twinsite/log/LogCodec" "HEX" "[B" (.ref ha)) (V0_ha : Arv Z Z.heap ha kh .byte (16 : Int32) [(.int (48 : Int32)), (.int (49 : Int32)), (.int (50 : Int32)), (.int (51 : Int32)), (.int (52 : Int32)), (.int (53 : Int32)), (.int (54 : Int32)), (.int (55 : Int32)), (.int (56 : Int32)), (.int (57 : Int32)), (.int (97 : Int32)), (.int (98 : Int32)), (.int (99 : Int32)), (.int (100 : Int32)), (.int (101 : Int32)), (.int (102 : Int32))] (.int (0 : Int32))) :
    Ct l Z (⟨"com/example/twinsite/twinsite/log/LogCodec", "hexDigit", "(JI)B"⟩ : MethodName) prog_62_method_12_code 3 (some .byte) [] ({ frames := 0, cells := 0, slots := 0, locals := 0 } : Room) #[(.long cc), (.int (6 : Int32))] h0 (Q_hex6 Z cc ha kh h0 n0) := by
  refine own_body (plainFor_of_name pn_0) (fun m => ef_hex6 m cc (6 : Int32)) ?_
  intro p e s m below meth c T0 hx hby hml hZ hown hnm hret hlk X0 e0
  have N0 := Fr.nil n0
  refine g_getS X0 hx hZ hown (host := "") (Or.inl (hw _ (List.mem_of_getElem? (i := 5) rfl))) Via.refl e0 (Sta.ext old0.2 S0_HEX) (hb hby d_prog_62_m_12_0) rfl fun T1 X1 e1 => ?_
  refine g_lloadN X1 hx (hb hby d_prog_62_m_12_3) rfl rfl ?_
  refine g_iconst X1 hx (r := (4 : Int32)) (hb hby d_prog_62_m_12_4) rfl rfl ?_
  refine g_bipush X1 hx (r := (7 : Int32)) (hb hby d_prog_62_m_12_5) rfl rfl ?_
  refine g_iloadN X1 hx (hb hby d_prog_62_m_12_7) rfl rfl ?_
  refine g_isub X1 hx (r := (1 : Int32)) (hb hby d_prog_62_m_12_8) rfl rfl ?_
  refine g_imul X1 hx (r := (4 : Int32)) (hb hby d_prog_62_m_12_9) rfl rfl ?_
  refine g_lushr X1 hx (hb hby d_prog_62_m_12_10) rfl rfl ?_
  refine g_l2i X1 hx (hb hby d_prog_62_m_12_11) rfl rfl ?_
  refine g_bipush X1 hx (r := (15 : Int32)) (hb hby d_prog_62_m_12_12) rfl rfl ?_
  refine g_iand X1 hx (hb hby d_prog_62_m_12_14) rfl rfl ?_
  refine g_baload X1 hx hZ e1 (V0_ha.ext old0.2) (v := (.int (own_hex (own_j (4 : Int32) cc)))) (own_jin _ _) (own_hexat (own_jin _ _).1 (own_jin _ _).2) (hb hby d_prog_62_m_12_15) rfl ?_
  exact g_retN X1 hx (t := .byte) (r := own_hex (own_j (4 : Int32) cc)) hret (by simp) hlk (hb hby d_prog_62_m_12_16) (own_hexnar (own_jin _ _).1 (own_jin _ _).2) (by decide) (by decide) (by rw [e1]; exact ⟨rfl, N0, rfl⟩)
def Q_hex7 (Z : State) (cc : Int64) (ha : Addr) (kh : ClassId) (h0 : Heap) (n0 : Nat) (v : Option Value) (h : Heap) (L : List Loc) : Prop := v = some (.int (own_hex (own_j (0 : Int32) cc))) ∧ Fr n0 L ∧ h = h0
theorem ef_hex7 (m : MethodId) (x0 : Int64) (x1 : Int32) : entryFrame m #[(.long x0), (.int x1)] 3 = mkF m 0 #[.val (.long x0), .second, .val (.int x1)] [] := by first | (simp [entryFrame, mkF, argsToLocals, Value.category]; done) | rfl
set_option maxRecDepth 65536 in
set_option maxHeartbeats 40000000 in
theorem rm_hex7 (l : Launch) (Z : State) (a0 : Array Value) (hw : ∀ d ∈ tables_1, d.before a0 Z = true) (cc : Int64) (ha : Addr) (kh : ClassId) (h0 : Heap) (n0 : Nat) (Z0 : n0 ≤ h0.size) (old0 : Old Z n0 h0) (S0_HEX : Sta Z Z.heap "com/example/twinsite/twinsite/log/LogCodec" "HEX" "[B" (.ref ha)) (V0_ha : Arv Z Z.heap ha kh .byte (16 : Int32) [(.int (48 : Int32)), (.int (49 : Int32)), (.int (50 : Int32)), (.int (51 : Int32)), (.int (52 : Int32)), (.int (53 : Int32)), (.int (54 : Int32)), (.int (55 : Int32)), (.int (56 : Int32)), (.int (57 : Int32)), (.int (97 : Int32)), (.int (98 : Int32)), (.int (99 : Int32)), (.int (100 : Int32)), (.int (101 : Int32)), (.int (102 : Int32))] (.int (0 : Int32))) :
    Ct l Z (⟨"com/example/twinsite/twinsite/log/LogCodec", "hexDigit", "(JI)B"⟩ : MethodName) prog_62_method_12_code 3 (some .byte) [] ({ frames := 0, cells := 0, slots := 0, locals := 0 } : Room) #[(.long cc), (.int (7 : Int32))] h0 (Q_hex7 Z cc ha kh h0 n0) := by
  refine own_body (plainFor_of_name pn_0) (fun m => ef_hex7 m cc (7 : Int32)) ?_
  intro p e s m below meth c T0 hx hby hml hZ hown hnm hret hlk X0 e0
  have N0 := Fr.nil n0
  refine g_getS X0 hx hZ hown (host := "") (Or.inl (hw _ (List.mem_of_getElem? (i := 5) rfl))) Via.refl e0 (Sta.ext old0.2 S0_HEX) (hb hby d_prog_62_m_12_0) rfl fun T1 X1 e1 => ?_
  refine g_lloadN X1 hx (hb hby d_prog_62_m_12_3) rfl rfl ?_
  refine g_iconst X1 hx (r := (4 : Int32)) (hb hby d_prog_62_m_12_4) rfl rfl ?_
  refine g_bipush X1 hx (r := (7 : Int32)) (hb hby d_prog_62_m_12_5) rfl rfl ?_
  refine g_iloadN X1 hx (hb hby d_prog_62_m_12_7) rfl rfl ?_
  refine g_isub X1 hx (r := (0 : Int32)) (hb hby d_prog_62_m_12_8) rfl rfl ?_
  refine g_imul X1 hx (r := (0 : Int32)) (hb hby d_prog_62_m_12_9) rfl rfl ?_
  refine g_lushr X1 hx (hb hby d_prog_62_m_12_10) rfl rfl ?_
  refine g_l2i X1 hx (hb hby d_prog_62_m_12_11) rfl rfl ?_
  refine g_bipush X1 hx (r := (15 : Int32)) (hb hby d_prog_62_m_12_12) rfl rfl ?_
  refine g_iand X1 hx (hb hby d_prog_62_m_12_14) rfl rfl ?_
  refine g_baload X1 hx hZ e1 (V0_ha.ext old0.2) (v := (.int (own_hex (own_j (0 : Int32) cc)))) (own_jin _ _) (own_hexat (own_jin _ _).1 (own_jin _ _).2) (hb hby d_prog_62_m_12_15) rfl ?_
  exact g_retN X1 hx (t := .byte) (r := own_hex (own_j (0 : Int32) cc)) hret (by simp) hlk (hb hby d_prog_62_m_12_16) (own_hexnar (own_jin _ _).1 (own_jin _ _).2) (by decide) (by decide) (by rw [e1]; exact ⟨rfl, N0, rfl⟩)
def Q_val (Z : State) (j : Int32) (h0 : Heap) (n0 : Nat) (v : Option Value) (h : Heap) (L : List Loc) : Prop := v = some (.int j) ∧ Fr n0 L ∧ h = h0
theorem ef_val (m : MethodId) (x0 : Int32) : entryFrame m #[(.int x0)] 1 = mkF m 0 #[.val (.int x0)] [] := by first | (simp [entryFrame, mkF, argsToLocals, Value.category]; done) | rfl
set_option maxRecDepth 65536 in
set_option maxHeartbeats 40000000 in
theorem rm_val (l : Launch) (Z : State) (a0 : Array Value) (hw : ∀ d ∈ tables_1, d.before a0 Z = true) (j : Int32) (h0 : Heap) (n0 : Nat) (Z0 : n0 ≤ h0.size) (hj0 : ¬ j < (0 : Int32)) (hj1 : j < (16 : Int32)) :
    Ct l Z (⟨"com/example/twinsite/twinsite/log/LogCodecHexDigitPinLaw", "value", "(B)I"⟩ : MethodName) method_2_code 1 (some .int) [] ({ frames := 0, cells := 0, slots := 0, locals := 0 } : Room) #[(.int (own_hex j))] h0 (Q_val Z j h0 n0) := by
  refine own_body (plainFor_of_name pn_1) (fun m => ef_val m (own_hex j)) ?_
  intro p e s m below meth c T0 hx hby hml hZ hown hnm hret hlk X0 e0
  have N0 := Fr.nil n0
  refine g_iloadN X0 hx (hb hby d_m_2_0) rfl rfl ?_
  refine g_bipush X0 hx (r := (48 : Int32)) (hb hby d_m_2_1) rfl rfl ?_
  have hc3 : ¬ (own_hex j) < (48 : Int32) := (own_v1 hj0 hj1).1
  refine g_icmpN X0 hx (hb hby d_m_2_3) rfl (XT.ii_lt_f hc3) ?_
  refine g_iloadN X0 hx (hb hby d_m_2_6) rfl rfl ?_
  refine g_bipush X0 hx (r := (57 : Int32)) (hb hby d_m_2_7) rfl rfl ?_
  by_cases hc9 : (57 : Int32) < (own_hex j)
  · skip
    refine g_icmpY X0 hx (q := 17) (hb hby d_m_2_9) (XT.ii_gt_t hc9) (by decide) (by decide) ?_
    refine g_iloadN X0 hx (hb hby d_m_2_17) rfl rfl ?_
    refine g_bipush X0 hx (r := (97 : Int32)) (hb hby d_m_2_18) rfl rfl ?_
    have hc20 : ¬ (own_hex j) < (97 : Int32) := ((own_v1 hj0 hj1).2.1 hc9).1
    refine g_icmpN X0 hx (hb hby d_m_2_20) rfl (XT.ii_lt_f hc20) ?_
    refine g_iloadN X0 hx (hb hby d_m_2_23) rfl rfl ?_
    refine g_bipush X0 hx (r := (102 : Int32)) (hb hby d_m_2_24) rfl rfl ?_
    have hc26 : ¬ (102 : Int32) < (own_hex j) := ((own_v1 hj0 hj1).2.1 hc9).2.1
    refine g_icmpN X0 hx (hb hby d_m_2_26) rfl (XT.ii_gt_f hc26) ?_
    refine g_iloadN X0 hx (hb hby d_m_2_29) rfl rfl ?_
    refine g_bipush X0 hx (r := (97 : Int32)) (hb hby d_m_2_30) rfl rfl ?_
    refine g_isub X0 hx (hb hby d_m_2_32) rfl rfl ?_
    refine g_bipush X0 hx (r := (10 : Int32)) (hb hby d_m_2_33) rfl rfl ?_
    refine g_iadd X0 hx (hb hby d_m_2_35) rfl rfl ?_
    exact g_retI X0 hx hret hlk (hb hby d_m_2_36) (by decide) (by decide) (by rw [e0]; exact ⟨(by rw [((own_v1 hj0 hj1).2.1 hc9).2.2]), N0, rfl⟩)
  · skip
    refine g_icmpN X0 hx (hb hby d_m_2_9) rfl (XT.ii_gt_f hc9) ?_
    refine g_iloadN X0 hx (hb hby d_m_2_12) rfl rfl ?_
    refine g_bipush X0 hx (r := (48 : Int32)) (hb hby d_m_2_13) rfl rfl ?_
    refine g_isub X0 hx (hb hby d_m_2_15) rfl rfl ?_
    exact g_retI X0 hx hret hlk (hb hby d_m_2_16) (by decide) (by decide) (by rw [e0]; exact ⟨(by rw [(own_v1 hj0 hj1).2.2 hc9]), N0, rfl⟩)
def Q_law (Z : State) (p0 : Int64) (ha : Addr) (kh : ClassId) (h0 : Heap) (n0 : Nat) (v : Option Value) (h : Heap) (L : List Loc) : Prop := v = some (.int 1) ∧ Fr n0 L
theorem ef_law (m : MethodId) (x0 : Int64) : entryFrame m #[(.long x0)] maxLocals = mkF m 0 #[.val (.long x0), .second, .unset, .unset, .unset, .unset, .unset, .unset, .unset, .unset, .unset, .unset, .unset, .unset] [] := by first | (simp [entryFrame, mkF, argsToLocals, Value.category, maxLocals]; done) | rfl
set_option maxRecDepth 65536 in
set_option maxHeartbeats 40000000 in
theorem rm_law (l : Launch) (Z : State) (a0 : Array Value) (hw : ∀ d ∈ tables_1, d.before a0 Z = true) (ws : List Jvm.Cond) (p0 : Int64) (ha : Addr) (kh : ClassId) (h0 : Heap) (n0 : Nat) (Z0 : n0 ≤ h0.size) (old0 : Old Z n0 h0) (S0_HEX : Sta Z Z.heap "com/example/twinsite/twinsite/log/LogCodec" "HEX" "[B" (.ref ha)) (V0_ha : Arv Z Z.heap ha kh .byte (16 : Int32) [(.int (48 : Int32)), (.int (49 : Int32)), (.int (50 : Int32)), (.int (51 : Int32)), (.int (52 : Int32)), (.int (53 : Int32)), (.int (54 : Int32)), (.int (55 : Int32)), (.int (56 : Int32)), (.int (57 : Int32)), (.int (97 : Int32)), (.int (98 : Int32)), (.int (99 : Int32)), (.int (100 : Int32)), (.int (101 : Int32)), (.int (102 : Int32))] (.int (0 : Int32))) :
    Ct l Z x code maxLocals ret ws room_1 #[(.long p0)] h0 (Q_law Z p0 ha kh h0 n0) := by
  refine own_body (plainFor_of_name pn_1) (fun m => ef_law m p0) ?_
  intro p e s m below meth c T0 hx hby hml hZ hown hnm hret hlk X0 e0
  have N0 := Fr.nil n0
  refine g_lloadN X0 hx (hb hby at_0) rfl rfl ?_
  refine g_ldc2 X0 hx hZ hown (hw _ (List.mem_of_getElem? (i := 0) rfl)) (hb hby at_1) rfl ?_
  obtain ⟨v4, hv4⟩ : ∃ r, (p0 &&& (4294967295 : Int64)) = r := ⟨_, rfl⟩
  refine g_land X0 hx (hb hby at_4) rfl hv4 ?_
  refine g_lstoreN X0 hx (Ls' := #[.val (.long p0), .second, .val (.long v4), .second, .unset, .unset, .unset, .unset, .unset, .unset, .unset, .unset, .unset, .unset]) (hb hby at_5) rfl rfl ?_
  refine g_lloadN X0 hx (hb hby at_6) rfl rfl ?_
  refine g_iconst X0 hx (r := (0 : Int32)) (hb hby at_7) rfl rfl ?_
  refine g_static X0 hx hZ hown (hw _ (List.mem_of_getElem? (i := 1) rfl)) (hw _ (List.mem_of_getElem? (i := 2) rfl)) (hw _ (List.mem_of_getElem? (i := 3) rfl)) (hw _ (List.mem_of_getElem? (i := 4) rfl)) (by decide) (rm_hex0 l Z a0 hw v4 ha kh h0 n0 Z0 old0 S0_HEX V0_ha) (by rw [hml]; rfl) e0 [(.long v4), (.int (0 : Int32))] rfl rfl (W := 0) (Nat.le_of_eq rfl) (by decide) (by decide) (by decide) (by decide) (lenOf pd_0 rfl) (hb hby at_8) rfl fun v1 T1 L1 X1 hQ1 => ?_
  obtain ⟨rfl, Nq1, eh1⟩ := hQ1
  have N1 := Fr.app N0 Nq1
  show Ga _ _ _ _ _ _ _ _ _ _ _ [(.int (own_hex (own_j (28 : Int32) v4)))]
  refine g_static X1 hx hZ hown (hw _ (List.mem_of_getElem? (i := 7) rfl)) (hw _ (List.mem_of_getElem? (i := 8) rfl)) (hw _ (List.mem_of_getElem? (i := 9) rfl)) (hw _ (List.mem_of_getElem? (i := 10) rfl)) (by decide) (rm_val l Z a0 hw (own_j (28 : Int32) v4) h0 n0 Z0 ((own_jin _ _).1) ((own_jin _ _).2)) (by rw [hml]; rfl) eh1 [(.int (own_hex (own_j (28 : Int32) v4)))] rfl rfl (W := 0) (Nat.le_of_eq rfl) (by decide) (by decide) (by decide) (by decide) (lenOf pd_1 rfl) (hb hby at_11) rfl fun v2 T2 L2 X2 hQ2 => ?_
  obtain ⟨rfl, Nq2, eh2⟩ := hQ2
  have N2 := Fr.app N1 Nq2
  show Ga _ _ _ _ _ _ _ _ _ _ _ [(.int (own_j (28 : Int32) v4))]
  refine g_istore X2 hx (Ls' := #[.val (.long p0), .second, .val (.long v4), .second, .val (.int (own_j (28 : Int32) v4)), .unset, .unset, .unset, .unset, .unset, .unset, .unset, .unset, .unset]) (hb hby at_14) rfl rfl ?_
  refine g_lloadN X2 hx (hb hby at_16) rfl rfl ?_
  refine g_iconst X2 hx (r := (1 : Int32)) (hb hby at_17) rfl rfl ?_
  refine g_static X2 hx hZ hown (hw _ (List.mem_of_getElem? (i := 1) rfl)) (hw _ (List.mem_of_getElem? (i := 2) rfl)) (hw _ (List.mem_of_getElem? (i := 3) rfl)) (hw _ (List.mem_of_getElem? (i := 4) rfl)) (by decide) (rm_hex1 l Z a0 hw v4 ha kh h0 n0 Z0 old0 S0_HEX V0_ha) (by rw [hml]; rfl) eh2 [(.long v4), (.int (1 : Int32))] rfl rfl (W := 0) (Nat.le_of_eq rfl) (by decide) (by decide) (by decide) (by decide) (lenOf pd_0 rfl) (hb hby at_18) rfl fun v3 T3 L3 X3 hQ3 => ?_
  obtain ⟨rfl, Nq3, eh3⟩ := hQ3
  have N3 := Fr.app N2 Nq3
  show Ga _ _ _ _ _ _ _ _ _ _ _ [(.int (own_hex (own_j (24 : Int32) v4)))]
  refine g_static X3 hx hZ hown (hw _ (List.mem_of_getElem? (i := 7) rfl)) (hw _ (List.mem_of_getElem? (i := 8) rfl)) (hw _ (List.mem_of_getElem? (i := 9) rfl)) (hw _ (List.mem_of_getElem? (i := 10) rfl)) (by decide) (rm_val l Z a0 hw (own_j (24 : Int32) v4) h0 n0 Z0 ((own_jin _ _).1) ((own_jin _ _).2)) (by rw [hml]; rfl) eh3 [(.int (own_hex (own_j (24 : Int32) v4)))] rfl rfl (W := 0) (Nat.le_of_eq rfl) (by decide) (by decide) (by decide) (by decide) (lenOf pd_1 rfl) (hb hby at_21) rfl fun v4 T4 L4 X4 hQ4 => ?_
  obtain ⟨rfl, Nq4, eh4⟩ := hQ4
  have N4 := Fr.app N3 Nq4
  show Ga _ _ _ _ _ _ _ _ _ _ _ [(.int (own_j (24 : Int32) v4))]
  refine g_istore X4 hx (Ls' := #[.val (.long p0), .second, .val (.long v4), .second, .val (.int (own_j (28 : Int32) v4)), .val (.int (own_j (24 : Int32) v4)), .unset, .unset, .unset, .unset, .unset, .unset, .unset, .unset]) (hb hby at_24) rfl rfl ?_
  refine g_lloadN X4 hx (hb hby at_26) rfl rfl ?_
  refine g_iconst X4 hx (r := (2 : Int32)) (hb hby at_27) rfl rfl ?_
  refine g_static X4 hx hZ hown (hw _ (List.mem_of_getElem? (i := 1) rfl)) (hw _ (List.mem_of_getElem? (i := 2) rfl)) (hw _ (List.mem_of_getElem? (i := 3) rfl)) (hw _ (List.mem_of_getElem? (i := 4) rfl)) (by decide) (rm_hex2 l Z a0 hw v4 ha kh h0 n0 Z0 old0 S0_HEX V0_ha) (by rw [hml]; rfl) eh4 [(.long v4), (.int (2 : Int32))] rfl rfl (W := 0) (Nat.le_of_eq rfl) (by decide) (by decide) (by decide) (by decide) (lenOf pd_0 rfl) (hb hby at_28) rfl fun v5 T5 L5 X5 hQ5 => ?_
  obtain ⟨rfl, Nq5, eh5⟩ := hQ5
  have N5 := Fr.app N4 Nq5
  show Ga _ _ _ _ _ _ _ _ _ _ _ [(.int (own_hex (own_j (20 : Int32) v4)))]
  refine g_static X5 hx hZ hown (hw _ (List.mem_of_getElem? (i := 7) rfl)) (hw _ (List.mem_of_getElem? (i := 8) rfl)) (hw _ (List.mem_of_getElem? (i := 9) rfl)) (hw _ (List.mem_of_getElem? (i := 10) rfl)) (by decide) (rm_val l Z a0 hw (own_j (20 : Int32) v4) h0 n0 Z0 ((own_jin _ _).1) ((own_jin _ _).2)) (by rw [hml]; rfl) eh5 [(.int (own_hex (own_j (20 : Int32) v4)))] rfl rfl (W := 0) (Nat.le_of_eq rfl) (by decide) (by decide) (by decide) (by decide) (lenOf pd_1 rfl) (hb hby at_31) rfl fun v6 T6 L6 X6 hQ6 => ?_
  obtain ⟨rfl, Nq6, eh6⟩ := hQ6
  have N6 := Fr.app N5 Nq6
  show Ga _ _ _ _ _ _ _ _ _ _ _ [(.int (own_j (20 : Int32) v4))]
  refine g_istore X6 hx (Ls' := #[.val (.long p0), .second, .val (.long v4), .second, .val (.int (own_j (28 : Int32) v4)), .val (.int (own_j (24 : Int32) v4)), .val (.int (own_j (20 : Int32) v4)), .unset, .unset, .unset, .unset, .unset, .unset, .unset]) (hb hby at_34) rfl rfl ?_
  refine g_lloadN X6 hx (hb hby at_36) rfl rfl ?_
  refine g_iconst X6 hx (r := (3 : Int32)) (hb hby at_37) rfl rfl ?_
  refine g_static X6 hx hZ hown (hw _ (List.mem_of_getElem? (i := 1) rfl)) (hw _ (List.mem_of_getElem? (i := 2) rfl)) (hw _ (List.mem_of_getElem? (i := 3) rfl)) (hw _ (List.mem_of_getElem? (i := 4) rfl)) (by decide) (rm_hex3 l Z a0 hw v4 ha kh h0 n0 Z0 old0 S0_HEX V0_ha) (by rw [hml]; rfl) eh6 [(.long v4), (.int (3 : Int32))] rfl rfl (W := 0) (Nat.le_of_eq rfl) (by decide) (by decide) (by decide) (by decide) (lenOf pd_0 rfl) (hb hby at_38) rfl fun v7 T7 L7 X7 hQ7 => ?_
  obtain ⟨rfl, Nq7, eh7⟩ := hQ7
  have N7 := Fr.app N6 Nq7
  show Ga _ _ _ _ _ _ _ _ _ _ _ [(.int (own_hex (own_j (16 : Int32) v4)))]
  refine g_static X7 hx hZ hown (hw _ (List.mem_of_getElem? (i := 7) rfl)) (hw _ (List.mem_of_getElem? (i := 8) rfl)) (hw _ (List.mem_of_getElem? (i := 9) rfl)) (hw _ (List.mem_of_getElem? (i := 10) rfl)) (by decide) (rm_val l Z a0 hw (own_j (16 : Int32) v4) h0 n0 Z0 ((own_jin _ _).1) ((own_jin _ _).2)) (by rw [hml]; rfl) eh7 [(.int (own_hex (own_j (16 : Int32) v4)))] rfl rfl (W := 0) (Nat.le_of_eq rfl) (by decide) (by decide) (by decide) (by decide) (lenOf pd_1 rfl) (hb hby at_41) rfl fun v8 T8 L8 X8 hQ8 => ?_
  obtain ⟨rfl, Nq8, eh8⟩ := hQ8
  have N8 := Fr.app N7 Nq8
  show Ga _ _ _ _ _ _ _ _ _ _ _ [(.int (own_j (16 : Int32) v4))]
  refine g_istore X8 hx (Ls' := #[.val (.long p0), .second, .val (.long v4), .second, .val (.int (own_j (28 : Int32) v4)), .val (.int (own_j (24 : Int32) v4)), .val (.int (own_j (20 : Int32) v4)), .val (.int (own_j (16 : Int32) v4)), .unset, .unset, .unset, .unset, .unset, .unset]) (hb hby at_44) rfl rfl ?_
  refine g_lloadN X8 hx (hb hby at_46) rfl rfl ?_
  refine g_iconst X8 hx (r := (4 : Int32)) (hb hby at_47) rfl rfl ?_
  refine g_static X8 hx hZ hown (hw _ (List.mem_of_getElem? (i := 1) rfl)) (hw _ (List.mem_of_getElem? (i := 2) rfl)) (hw _ (List.mem_of_getElem? (i := 3) rfl)) (hw _ (List.mem_of_getElem? (i := 4) rfl)) (by decide) (rm_hex4 l Z a0 hw v4 ha kh h0 n0 Z0 old0 S0_HEX V0_ha) (by rw [hml]; rfl) eh8 [(.long v4), (.int (4 : Int32))] rfl rfl (W := 0) (Nat.le_of_eq rfl) (by decide) (by decide) (by decide) (by decide) (lenOf pd_0 rfl) (hb hby at_48) rfl fun v9 T9 L9 X9 hQ9 => ?_
  obtain ⟨rfl, Nq9, eh9⟩ := hQ9
  have N9 := Fr.app N8 Nq9
  show Ga _ _ _ _ _ _ _ _ _ _ _ [(.int (own_hex (own_j (12 : Int32) v4)))]
  refine g_static X9 hx hZ hown (hw _ (List.mem_of_getElem? (i := 7) rfl)) (hw _ (List.mem_of_getElem? (i := 8) rfl)) (hw _ (List.mem_of_getElem? (i := 9) rfl)) (hw _ (List.mem_of_getElem? (i := 10) rfl)) (by decide) (rm_val l Z a0 hw (own_j (12 : Int32) v4) h0 n0 Z0 ((own_jin _ _).1) ((own_jin _ _).2)) (by rw [hml]; rfl) eh9 [(.int (own_hex (own_j (12 : Int32) v4)))] rfl rfl (W := 0) (Nat.le_of_eq rfl) (by decide) (by decide) (by decide) (by decide) (lenOf pd_1 rfl) (hb hby at_51) rfl fun v10 T10 L10 X10 hQ10 => ?_
  obtain ⟨rfl, Nq10, eh10⟩ := hQ10
  have N10 := Fr.app N9 Nq10
  show Ga _ _ _ _ _ _ _ _ _ _ _ [(.int (own_j (12 : Int32) v4))]
  refine g_istore X10 hx (Ls' := #[.val (.long p0), .second, .val (.long v4), .second, .val (.int (own_j (28 : Int32) v4)), .val (.int (own_j (24 : Int32) v4)), .val (.int (own_j (20 : Int32) v4)), .val (.int (own_j (16 : Int32) v4)), .val (.int (own_j (12 : Int32) v4)), .unset, .unset, .unset, .unset, .unset]) (hb hby at_54) rfl rfl ?_
  refine g_lloadN X10 hx (hb hby at_56) rfl rfl ?_
  refine g_iconst X10 hx (r := (5 : Int32)) (hb hby at_57) rfl rfl ?_
  refine g_static X10 hx hZ hown (hw _ (List.mem_of_getElem? (i := 1) rfl)) (hw _ (List.mem_of_getElem? (i := 2) rfl)) (hw _ (List.mem_of_getElem? (i := 3) rfl)) (hw _ (List.mem_of_getElem? (i := 4) rfl)) (by decide) (rm_hex5 l Z a0 hw v4 ha kh h0 n0 Z0 old0 S0_HEX V0_ha) (by rw [hml]; rfl) eh10 [(.long v4), (.int (5 : Int32))] rfl rfl (W := 0) (Nat.le_of_eq rfl) (by decide) (by decide) (by decide) (by decide) (lenOf pd_0 rfl) (hb hby at_58) rfl fun v11 T11 L11 X11 hQ11 => ?_
  obtain ⟨rfl, Nq11, eh11⟩ := hQ11
  have N11 := Fr.app N10 Nq11
  show Ga _ _ _ _ _ _ _ _ _ _ _ [(.int (own_hex (own_j (8 : Int32) v4)))]
  refine g_static X11 hx hZ hown (hw _ (List.mem_of_getElem? (i := 7) rfl)) (hw _ (List.mem_of_getElem? (i := 8) rfl)) (hw _ (List.mem_of_getElem? (i := 9) rfl)) (hw _ (List.mem_of_getElem? (i := 10) rfl)) (by decide) (rm_val l Z a0 hw (own_j (8 : Int32) v4) h0 n0 Z0 ((own_jin _ _).1) ((own_jin _ _).2)) (by rw [hml]; rfl) eh11 [(.int (own_hex (own_j (8 : Int32) v4)))] rfl rfl (W := 0) (Nat.le_of_eq rfl) (by decide) (by decide) (by decide) (by decide) (lenOf pd_1 rfl) (hb hby at_61) rfl fun v12 T12 L12 X12 hQ12 => ?_
  obtain ⟨rfl, Nq12, eh12⟩ := hQ12
  have N12 := Fr.app N11 Nq12
  show Ga _ _ _ _ _ _ _ _ _ _ _ [(.int (own_j (8 : Int32) v4))]
  refine g_istore X12 hx (Ls' := #[.val (.long p0), .second, .val (.long v4), .second, .val (.int (own_j (28 : Int32) v4)), .val (.int (own_j (24 : Int32) v4)), .val (.int (own_j (20 : Int32) v4)), .val (.int (own_j (16 : Int32) v4)), .val (.int (own_j (12 : Int32) v4)), .val (.int (own_j (8 : Int32) v4)), .unset, .unset, .unset, .unset]) (hb hby at_64) rfl rfl ?_
  refine g_lloadN X12 hx (hb hby at_66) rfl rfl ?_
  refine g_bipush X12 hx (r := (6 : Int32)) (hb hby at_67) rfl rfl ?_
  refine g_static X12 hx hZ hown (hw _ (List.mem_of_getElem? (i := 1) rfl)) (hw _ (List.mem_of_getElem? (i := 2) rfl)) (hw _ (List.mem_of_getElem? (i := 3) rfl)) (hw _ (List.mem_of_getElem? (i := 4) rfl)) (by decide) (rm_hex6 l Z a0 hw v4 ha kh h0 n0 Z0 old0 S0_HEX V0_ha) (by rw [hml]; rfl) eh12 [(.long v4), (.int (6 : Int32))] rfl rfl (W := 0) (Nat.le_of_eq rfl) (by decide) (by decide) (by decide) (by decide) (lenOf pd_0 rfl) (hb hby at_69) rfl fun v13 T13 L13 X13 hQ13 => ?_
  obtain ⟨rfl, Nq13, eh13⟩ := hQ13
  have N13 := Fr.app N12 Nq13
  show Ga _ _ _ _ _ _ _ _ _ _ _ [(.int (own_hex (own_j (4 : Int32) v4)))]
  refine g_static X13 hx hZ hown (hw _ (List.mem_of_getElem? (i := 7) rfl)) (hw _ (List.mem_of_getElem? (i := 8) rfl)) (hw _ (List.mem_of_getElem? (i := 9) rfl)) (hw _ (List.mem_of_getElem? (i := 10) rfl)) (by decide) (rm_val l Z a0 hw (own_j (4 : Int32) v4) h0 n0 Z0 ((own_jin _ _).1) ((own_jin _ _).2)) (by rw [hml]; rfl) eh13 [(.int (own_hex (own_j (4 : Int32) v4)))] rfl rfl (W := 0) (Nat.le_of_eq rfl) (by decide) (by decide) (by decide) (by decide) (lenOf pd_1 rfl) (hb hby at_72) rfl fun v14 T14 L14 X14 hQ14 => ?_
  obtain ⟨rfl, Nq14, eh14⟩ := hQ14
  have N14 := Fr.app N13 Nq14
  show Ga _ _ _ _ _ _ _ _ _ _ _ [(.int (own_j (4 : Int32) v4))]
  refine g_istore X14 hx (Ls' := #[.val (.long p0), .second, .val (.long v4), .second, .val (.int (own_j (28 : Int32) v4)), .val (.int (own_j (24 : Int32) v4)), .val (.int (own_j (20 : Int32) v4)), .val (.int (own_j (16 : Int32) v4)), .val (.int (own_j (12 : Int32) v4)), .val (.int (own_j (8 : Int32) v4)), .val (.int (own_j (4 : Int32) v4)), .unset, .unset, .unset]) (hb hby at_75) rfl rfl ?_
  refine g_lloadN X14 hx (hb hby at_77) rfl rfl ?_
  refine g_bipush X14 hx (r := (7 : Int32)) (hb hby at_78) rfl rfl ?_
  refine g_static X14 hx hZ hown (hw _ (List.mem_of_getElem? (i := 1) rfl)) (hw _ (List.mem_of_getElem? (i := 2) rfl)) (hw _ (List.mem_of_getElem? (i := 3) rfl)) (hw _ (List.mem_of_getElem? (i := 4) rfl)) (by decide) (rm_hex7 l Z a0 hw v4 ha kh h0 n0 Z0 old0 S0_HEX V0_ha) (by rw [hml]; rfl) eh14 [(.long v4), (.int (7 : Int32))] rfl rfl (W := 0) (Nat.le_of_eq rfl) (by decide) (by decide) (by decide) (by decide) (lenOf pd_0 rfl) (hb hby at_80) rfl fun v15 T15 L15 X15 hQ15 => ?_
  obtain ⟨rfl, Nq15, eh15⟩ := hQ15
  have N15 := Fr.app N14 Nq15
  show Ga _ _ _ _ _ _ _ _ _ _ _ [(.int (own_hex (own_j (0 : Int32) v4)))]
  refine g_static X15 hx hZ hown (hw _ (List.mem_of_getElem? (i := 7) rfl)) (hw _ (List.mem_of_getElem? (i := 8) rfl)) (hw _ (List.mem_of_getElem? (i := 9) rfl)) (hw _ (List.mem_of_getElem? (i := 10) rfl)) (by decide) (rm_val l Z a0 hw (own_j (0 : Int32) v4) h0 n0 Z0 ((own_jin _ _).1) ((own_jin _ _).2)) (by rw [hml]; rfl) eh15 [(.int (own_hex (own_j (0 : Int32) v4)))] rfl rfl (W := 0) (Nat.le_of_eq rfl) (by decide) (by decide) (by decide) (by decide) (lenOf pd_1 rfl) (hb hby at_83) rfl fun v16 T16 L16 X16 hQ16 => ?_
  obtain ⟨rfl, Nq16, eh16⟩ := hQ16
  have N16 := Fr.app N15 Nq16
  show Ga _ _ _ _ _ _ _ _ _ _ _ [(.int (own_j (0 : Int32) v4))]
  refine g_istore X16 hx (Ls' := #[.val (.long p0), .second, .val (.long v4), .second, .val (.int (own_j (28 : Int32) v4)), .val (.int (own_j (24 : Int32) v4)), .val (.int (own_j (20 : Int32) v4)), .val (.int (own_j (16 : Int32) v4)), .val (.int (own_j (12 : Int32) v4)), .val (.int (own_j (8 : Int32) v4)), .val (.int (own_j (4 : Int32) v4)), .val (.int (own_j (0 : Int32) v4)), .unset, .unset]) (hb hby at_86) rfl rfl ?_
  refine g_iload X16 hx (hb hby at_88) rfl rfl ?_
  have hc90 : ¬ (own_j (28 : Int32) v4) < (0 : Int32) := (own_jin _ _).1
  refine g_ifN X16 hx (hb hby at_90) rfl (XT.i0_lt_f hc90) ?_
  refine g_iload X16 hx (hb hby at_93) rfl rfl ?_
  have hc95 : ¬ (own_j (24 : Int32) v4) < (0 : Int32) := (own_jin _ _).1
  refine g_ifN X16 hx (hb hby at_95) rfl (XT.i0_lt_f hc95) ?_
  refine g_iload X16 hx (hb hby at_98) rfl rfl ?_
  have hc100 : ¬ (own_j (20 : Int32) v4) < (0 : Int32) := (own_jin _ _).1
  refine g_ifN X16 hx (hb hby at_100) rfl (XT.i0_lt_f hc100) ?_
  refine g_iload X16 hx (hb hby at_103) rfl rfl ?_
  have hc105 : ¬ (own_j (16 : Int32) v4) < (0 : Int32) := (own_jin _ _).1
  refine g_ifN X16 hx (hb hby at_105) rfl (XT.i0_lt_f hc105) ?_
  refine g_iload X16 hx (hb hby at_108) rfl rfl ?_
  have hc110 : ¬ (own_j (12 : Int32) v4) < (0 : Int32) := (own_jin _ _).1
  refine g_ifN X16 hx (hb hby at_110) rfl (XT.i0_lt_f hc110) ?_
  refine g_iload X16 hx (hb hby at_113) rfl rfl ?_
  have hc115 : ¬ (own_j (8 : Int32) v4) < (0 : Int32) := (own_jin _ _).1
  refine g_ifN X16 hx (hb hby at_115) rfl (XT.i0_lt_f hc115) ?_
  refine g_iload X16 hx (hb hby at_118) rfl rfl ?_
  have hc120 : ¬ (own_j (4 : Int32) v4) < (0 : Int32) := (own_jin _ _).1
  refine g_ifN X16 hx (hb hby at_120) rfl (XT.i0_lt_f hc120) ?_
  refine g_iload X16 hx (hb hby at_123) rfl rfl ?_
  have hc125 : ¬ (own_j (0 : Int32) v4) < (0 : Int32) := (own_jin _ _).1
  refine g_ifY X16 hx (q := 130) (hb hby at_125) (XT.i0_ge_t hc125) (by decide) (by decide) ?_
  refine g_iload X16 hx (hb hby at_130) rfl rfl ?_
  refine g_i2l X16 hx (hb hby at_132) rfl rfl ?_
  refine g_lstore X16 hx (Ls' := #[.val (.long p0), .second, .val (.long v4), .second, .val (.int (own_j (28 : Int32) v4)), .val (.int (own_j (24 : Int32) v4)), .val (.int (own_j (20 : Int32) v4)), .val (.int (own_j (16 : Int32) v4)), .val (.int (own_j (12 : Int32) v4)), .val (.int (own_j (8 : Int32) v4)), .val (.int (own_j (4 : Int32) v4)), .val (.int (own_j (0 : Int32) v4)), .val (.long ((own_j (28 : Int32) v4).toInt64)), .second]) (hb hby at_133) rfl rfl ?_
  refine g_lload X16 hx (hb hby at_135) rfl rfl ?_
  refine g_ldc2 X16 hx hZ hown (hw _ (List.mem_of_getElem? (i := 11) rfl)) (hb hby at_137) rfl ?_
  refine g_lmul X16 hx (hb hby at_140) rfl rfl ?_
  refine g_iload X16 hx (hb hby at_141) rfl rfl ?_
  refine g_i2l X16 hx (hb hby at_143) rfl rfl ?_
  refine g_ladd X16 hx (hb hby at_144) rfl rfl ?_
  refine g_lstore X16 hx (Ls' := #[.val (.long p0), .second, .val (.long v4), .second, .val (.int (own_j (28 : Int32) v4)), .val (.int (own_j (24 : Int32) v4)), .val (.int (own_j (20 : Int32) v4)), .val (.int (own_j (16 : Int32) v4)), .val (.int (own_j (12 : Int32) v4)), .val (.int (own_j (8 : Int32) v4)), .val (.int (own_j (4 : Int32) v4)), .val (.int (own_j (0 : Int32) v4)), .val (.long ((((own_j (28 : Int32) v4).toInt64) * (16 : Int64)) + ((own_j (24 : Int32) v4).toInt64))), .second]) (hb hby at_145) rfl rfl ?_
  refine g_lload X16 hx (hb hby at_147) rfl rfl ?_
  refine g_ldc2 X16 hx hZ hown (hw _ (List.mem_of_getElem? (i := 11) rfl)) (hb hby at_149) rfl ?_
  refine g_lmul X16 hx (hb hby at_152) rfl rfl ?_
  refine g_iload X16 hx (hb hby at_153) rfl rfl ?_
  refine g_i2l X16 hx (hb hby at_155) rfl rfl ?_
  refine g_ladd X16 hx (hb hby at_156) rfl rfl ?_
  refine g_lstore X16 hx (Ls' := #[.val (.long p0), .second, .val (.long v4), .second, .val (.int (own_j (28 : Int32) v4)), .val (.int (own_j (24 : Int32) v4)), .val (.int (own_j (20 : Int32) v4)), .val (.int (own_j (16 : Int32) v4)), .val (.int (own_j (12 : Int32) v4)), .val (.int (own_j (8 : Int32) v4)), .val (.int (own_j (4 : Int32) v4)), .val (.int (own_j (0 : Int32) v4)), .val (.long ((((((own_j (28 : Int32) v4).toInt64) * (16 : Int64)) + ((own_j (24 : Int32) v4).toInt64)) * (16 : Int64)) + ((own_j (20 : Int32) v4).toInt64))), .second]) (hb hby at_157) rfl rfl ?_
  refine g_lload X16 hx (hb hby at_159) rfl rfl ?_
  refine g_ldc2 X16 hx hZ hown (hw _ (List.mem_of_getElem? (i := 11) rfl)) (hb hby at_161) rfl ?_
  refine g_lmul X16 hx (hb hby at_164) rfl rfl ?_
  refine g_iload X16 hx (hb hby at_165) rfl rfl ?_
  refine g_i2l X16 hx (hb hby at_167) rfl rfl ?_
  refine g_ladd X16 hx (hb hby at_168) rfl rfl ?_
  refine g_lstore X16 hx (Ls' := #[.val (.long p0), .second, .val (.long v4), .second, .val (.int (own_j (28 : Int32) v4)), .val (.int (own_j (24 : Int32) v4)), .val (.int (own_j (20 : Int32) v4)), .val (.int (own_j (16 : Int32) v4)), .val (.int (own_j (12 : Int32) v4)), .val (.int (own_j (8 : Int32) v4)), .val (.int (own_j (4 : Int32) v4)), .val (.int (own_j (0 : Int32) v4)), .val (.long ((((((((own_j (28 : Int32) v4).toInt64) * (16 : Int64)) + ((own_j (24 : Int32) v4).toInt64)) * (16 : Int64)) + ((own_j (20 : Int32) v4).toInt64)) * (16 : Int64)) + ((own_j (16 : Int32) v4).toInt64))), .second]) (hb hby at_169) rfl rfl ?_
  refine g_lload X16 hx (hb hby at_171) rfl rfl ?_
  refine g_ldc2 X16 hx hZ hown (hw _ (List.mem_of_getElem? (i := 11) rfl)) (hb hby at_173) rfl ?_
  refine g_lmul X16 hx (hb hby at_176) rfl rfl ?_
  refine g_iload X16 hx (hb hby at_177) rfl rfl ?_
  refine g_i2l X16 hx (hb hby at_179) rfl rfl ?_
  refine g_ladd X16 hx (hb hby at_180) rfl rfl ?_
  refine g_lstore X16 hx (Ls' := #[.val (.long p0), .second, .val (.long v4), .second, .val (.int (own_j (28 : Int32) v4)), .val (.int (own_j (24 : Int32) v4)), .val (.int (own_j (20 : Int32) v4)), .val (.int (own_j (16 : Int32) v4)), .val (.int (own_j (12 : Int32) v4)), .val (.int (own_j (8 : Int32) v4)), .val (.int (own_j (4 : Int32) v4)), .val (.int (own_j (0 : Int32) v4)), .val (.long ((((((((((own_j (28 : Int32) v4).toInt64) * (16 : Int64)) + ((own_j (24 : Int32) v4).toInt64)) * (16 : Int64)) + ((own_j (20 : Int32) v4).toInt64)) * (16 : Int64)) + ((own_j (16 : Int32) v4).toInt64)) * (16 : Int64)) + ((own_j (12 : Int32) v4).toInt64))), .second]) (hb hby at_181) rfl rfl ?_
  refine g_lload X16 hx (hb hby at_183) rfl rfl ?_
  refine g_ldc2 X16 hx hZ hown (hw _ (List.mem_of_getElem? (i := 11) rfl)) (hb hby at_185) rfl ?_
  refine g_lmul X16 hx (hb hby at_188) rfl rfl ?_
  refine g_iload X16 hx (hb hby at_189) rfl rfl ?_
  refine g_i2l X16 hx (hb hby at_191) rfl rfl ?_
  refine g_ladd X16 hx (hb hby at_192) rfl rfl ?_
  refine g_lstore X16 hx (Ls' := #[.val (.long p0), .second, .val (.long v4), .second, .val (.int (own_j (28 : Int32) v4)), .val (.int (own_j (24 : Int32) v4)), .val (.int (own_j (20 : Int32) v4)), .val (.int (own_j (16 : Int32) v4)), .val (.int (own_j (12 : Int32) v4)), .val (.int (own_j (8 : Int32) v4)), .val (.int (own_j (4 : Int32) v4)), .val (.int (own_j (0 : Int32) v4)), .val (.long ((((((((((((own_j (28 : Int32) v4).toInt64) * (16 : Int64)) + ((own_j (24 : Int32) v4).toInt64)) * (16 : Int64)) + ((own_j (20 : Int32) v4).toInt64)) * (16 : Int64)) + ((own_j (16 : Int32) v4).toInt64)) * (16 : Int64)) + ((own_j (12 : Int32) v4).toInt64)) * (16 : Int64)) + ((own_j (8 : Int32) v4).toInt64))), .second]) (hb hby at_193) rfl rfl ?_
  refine g_lload X16 hx (hb hby at_195) rfl rfl ?_
  refine g_ldc2 X16 hx hZ hown (hw _ (List.mem_of_getElem? (i := 11) rfl)) (hb hby at_197) rfl ?_
  refine g_lmul X16 hx (hb hby at_200) rfl rfl ?_
  refine g_iload X16 hx (hb hby at_201) rfl rfl ?_
  refine g_i2l X16 hx (hb hby at_203) rfl rfl ?_
  refine g_ladd X16 hx (hb hby at_204) rfl rfl ?_
  refine g_lstore X16 hx (Ls' := #[.val (.long p0), .second, .val (.long v4), .second, .val (.int (own_j (28 : Int32) v4)), .val (.int (own_j (24 : Int32) v4)), .val (.int (own_j (20 : Int32) v4)), .val (.int (own_j (16 : Int32) v4)), .val (.int (own_j (12 : Int32) v4)), .val (.int (own_j (8 : Int32) v4)), .val (.int (own_j (4 : Int32) v4)), .val (.int (own_j (0 : Int32) v4)), .val (.long ((((((((((((((own_j (28 : Int32) v4).toInt64) * (16 : Int64)) + ((own_j (24 : Int32) v4).toInt64)) * (16 : Int64)) + ((own_j (20 : Int32) v4).toInt64)) * (16 : Int64)) + ((own_j (16 : Int32) v4).toInt64)) * (16 : Int64)) + ((own_j (12 : Int32) v4).toInt64)) * (16 : Int64)) + ((own_j (8 : Int32) v4).toInt64)) * (16 : Int64)) + ((own_j (4 : Int32) v4).toInt64))), .second]) (hb hby at_205) rfl rfl ?_
  refine g_lload X16 hx (hb hby at_207) rfl rfl ?_
  refine g_ldc2 X16 hx hZ hown (hw _ (List.mem_of_getElem? (i := 11) rfl)) (hb hby at_209) rfl ?_
  refine g_lmul X16 hx (hb hby at_212) rfl rfl ?_
  refine g_iload X16 hx (hb hby at_213) rfl rfl ?_
  refine g_i2l X16 hx (hb hby at_215) rfl rfl ?_
  refine g_ladd X16 hx (hb hby at_216) rfl rfl ?_
  refine g_lstore X16 hx (Ls' := #[.val (.long p0), .second, .val (.long v4), .second, .val (.int (own_j (28 : Int32) v4)), .val (.int (own_j (24 : Int32) v4)), .val (.int (own_j (20 : Int32) v4)), .val (.int (own_j (16 : Int32) v4)), .val (.int (own_j (12 : Int32) v4)), .val (.int (own_j (8 : Int32) v4)), .val (.int (own_j (4 : Int32) v4)), .val (.int (own_j (0 : Int32) v4)), .val (.long ((((((((((((((((own_j (28 : Int32) v4).toInt64) * (16 : Int64)) + ((own_j (24 : Int32) v4).toInt64)) * (16 : Int64)) + ((own_j (20 : Int32) v4).toInt64)) * (16 : Int64)) + ((own_j (16 : Int32) v4).toInt64)) * (16 : Int64)) + ((own_j (12 : Int32) v4).toInt64)) * (16 : Int64)) + ((own_j (8 : Int32) v4).toInt64)) * (16 : Int64)) + ((own_j (4 : Int32) v4).toInt64)) * (16 : Int64)) + ((own_j (0 : Int32) v4).toInt64))), .second]) (hb hby at_217) rfl rfl ?_
  refine g_lload X16 hx (hb hby at_219) rfl rfl ?_
  refine g_lloadN X16 hx (hb hby at_221) rfl rfl ?_
  refine g_lcmp X16 hx (hb hby at_222) rfl  ?_
  have hc223 : ((((((((((((((((own_j (28 : Int32) v4).toInt64) * (16 : Int64)) + ((own_j (24 : Int32) v4).toInt64)) * (16 : Int64)) + ((own_j (20 : Int32) v4).toInt64)) * (16 : Int64)) + ((own_j (16 : Int32) v4).toInt64)) * (16 : Int64)) + ((own_j (12 : Int32) v4).toInt64)) * (16 : Int64)) + ((own_j (8 : Int32) v4).toInt64)) * (16 : Int64)) + ((own_j (4 : Int32) v4).toInt64)) * (16 : Int64)) + ((own_j (0 : Int32) v4).toInt64)) = v4 := own_sum ⟨p0, hv4⟩
  refine g_ifN X16 hx (hb hby at_223) rfl (XT.ll_ne_f hc223) ?_
  refine g_iconst X16 hx (r := (1 : Int32)) (hb hby at_226) rfl rfl ?_
  refine g_goto X16 hx (q := 231) (hb hby at_227) (by decide) (by decide) ?_
  exact g_retN X16 hx (t := .boolean) (r := (1 : Int32)) hret (by simp) hlk (hb hby at_231) rfl (by decide) (by decide) (by rw [eh16]; exact ⟨rfl, N16⟩)
set_option maxRecDepth 65536 in
set_option maxHeartbeats 40000000 in
theorem comes_1 {Post : Tables → Env → Array Value → State → Outcome → State → Prop} (hpost : ∀ tb e args s v u, (limb_1_1.after args s (.returned v) u = true ∧ limb_1_2.after args s (.returned v) u = true ∧ True) → FrameEnd s (.returned v) u (Jvm.fieldLocs frame_1_writes args s ++ Jvm.arrayLocs frame_1_arrays args s ++ Jvm.staticLocs frame_1_statics s) 0 0 → Post tb e args s (.returned v) u) :
    ArmFor flags0 classFile x code maxLocals ret World_1 tables_1 room_1 Calls_1 rest_1 Pre_1 Post := by
  intro l hfl _ _ p e ha hc hk s m args below hf hA hF happ hP
  obtain ⟨hcalls, hrest, hpre⟩ := hP
  obtain ⟨-, -, -, hnamed, -, -, -, hat⟩ := (Spec.applies_iff hf).mp happ
  obtain ⟨hg, hn⟩ := and_e (Cond.before_iff.mp (show (Jvm.Cond.and given_1 narrow_1).before args s = true from hpre))
  obtain ⟨hcn, hg1⟩ := and_e hg
  have k1 := hg1
  obtain ⟨w0, rfl⟩ : ∃ w0 : Value, args = #[w0] := by
    have hs : args.size = 1 := by simpa [Cond.value, given_1] using hcn
    obtain ⟨L⟩ := args
    match L, hs with
    | [w0], _ => exact ⟨w0, rfl⟩
  have hw := fun d (hd : d ∈ tables_1) => atoms_spec (ws := Jvm.Cond.code x code maxLocals ret :: tables_1) hat d (List.mem_cons_of_mem _ hd)
  have hfit : Fit s := fun {y c} hc i hi => by
    obtain ⟨ha, rfl⟩ := Array.getElem?_eq_some_iff.mp hc
    have q := List.all_eq_true.mp ((Array.all_eq_true_iff_forall_mem.mp hF) _ (Array.getElem_mem ha)) i (List.mem_range.mpr hi)
    simpa [Array.getElem?_eq_getElem hi] using q
  obtain ⟨i0, ei0⟩ := isL_v k1
  obtain rfl : w0 = (.long i0) := Option.some.inj ei0
  obtain ⟨m1, m_r1⟩ := and_e hn
  obtain ⟨m2, m_r2⟩ := and_e m_r1
  obtain ⟨m3, m_r3⟩ := and_e m_r2
  have m4 := m_r3
  obtain ⟨hxa, eha⟩ := arr_v m1
  have Sha := Sta.start eha (Or.inr ⟨hw _ (List.mem_of_getElem? (i := 3) rfl), hw _ (List.mem_of_getElem? (i := 6) rfl)⟩)
  obtain ⟨cha, Aha⟩ := Arr.start eha m1
  have hl16 := own_len0 Aha eha (own_eqi m2)
  have hs16 : cha.slots.size = 16 := by
    have q := congrArg Int32.toInt hl16.2
    rw [len_toInt hl16.1] at q
    have e : (16 : Int32).toInt = 16 := rfl
    omega
  have evi : ∀ i, (Term.static "com/example/twinsite/twinsite/log/LogCodec" "HEX" "[B").eval #[.long i0] s none [i] s = some (.ref hxa) := fun _ => eha
  have x0 : cha.slots[0]? = some (.int (48 : Int32)) := own_hexel Aha (evi 0) (by decide) (by decide) (own_or rfl (own_all Aha eha m3 0 (by rw [hs16]; decide)))
  have x1 : cha.slots[1]? = some (.int (49 : Int32)) := own_hexel Aha (evi 1) (by decide) (by decide) (own_or rfl (own_all Aha eha m3 1 (by rw [hs16]; decide)))
  have x2 : cha.slots[2]? = some (.int (50 : Int32)) := own_hexel Aha (evi 2) (by decide) (by decide) (own_or rfl (own_all Aha eha m3 2 (by rw [hs16]; decide)))
  have x3 : cha.slots[3]? = some (.int (51 : Int32)) := own_hexel Aha (evi 3) (by decide) (by decide) (own_or rfl (own_all Aha eha m3 3 (by rw [hs16]; decide)))
  have x4 : cha.slots[4]? = some (.int (52 : Int32)) := own_hexel Aha (evi 4) (by decide) (by decide) (own_or rfl (own_all Aha eha m3 4 (by rw [hs16]; decide)))
  have x5 : cha.slots[5]? = some (.int (53 : Int32)) := own_hexel Aha (evi 5) (by decide) (by decide) (own_or rfl (own_all Aha eha m3 5 (by rw [hs16]; decide)))
  have x6 : cha.slots[6]? = some (.int (54 : Int32)) := own_hexel Aha (evi 6) (by decide) (by decide) (own_or rfl (own_all Aha eha m3 6 (by rw [hs16]; decide)))
  have x7 : cha.slots[7]? = some (.int (55 : Int32)) := own_hexel Aha (evi 7) (by decide) (by decide) (own_or rfl (own_all Aha eha m3 7 (by rw [hs16]; decide)))
  have x8 : cha.slots[8]? = some (.int (56 : Int32)) := own_hexel Aha (evi 8) (by decide) (by decide) (own_or rfl (own_all Aha eha m3 8 (by rw [hs16]; decide)))
  have x9 : cha.slots[9]? = some (.int (57 : Int32)) := own_hexel Aha (evi 9) (by decide) (by decide) (own_or rfl (own_all Aha eha m3 9 (by rw [hs16]; decide)))
  have x10 : cha.slots[10]? = some (.int (97 : Int32)) := own_hexel Aha (evi 10) (by decide) (by decide) (own_or rfl (own_all Aha eha m4 10 (by rw [hs16]; decide)))
  have x11 : cha.slots[11]? = some (.int (98 : Int32)) := own_hexel Aha (evi 11) (by decide) (by decide) (own_or rfl (own_all Aha eha m4 11 (by rw [hs16]; decide)))
  have x12 : cha.slots[12]? = some (.int (99 : Int32)) := own_hexel Aha (evi 12) (by decide) (by decide) (own_or rfl (own_all Aha eha m4 12 (by rw [hs16]; decide)))
  have x13 : cha.slots[13]? = some (.int (100 : Int32)) := own_hexel Aha (evi 13) (by decide) (by decide) (own_or rfl (own_all Aha eha m4 13 (by rw [hs16]; decide)))
  have x14 : cha.slots[14]? = some (.int (101 : Int32)) := own_hexel Aha (evi 14) (by decide) (by decide) (own_or rfl (own_all Aha eha m4 14 (by rw [hs16]; decide)))
  have x15 : cha.slots[15]? = some (.int (102 : Int32)) := own_hexel Aha (evi 15) (by decide) (by decide) (own_or rfl (own_all Aha eha m4 15 (by rw [hs16]; decide)))
  have Vha : Arv s s.heap hxa cha.cls .byte (16 : Int32) [(.int (48 : Int32)), (.int (49 : Int32)), (.int (50 : Int32)), (.int (51 : Int32)), (.int (52 : Int32)), (.int (53 : Int32)), (.int (54 : Int32)), (.int (55 : Int32)), (.int (56 : Int32)), (.int (57 : Int32)), (.int (97 : Int32)), (.int (98 : Int32)), (.int (99 : Int32)), (.int (100 : Int32)), (.int (101 : Int32)), (.int (102 : Int32))] (.int (0 : Int32)) := Arv.start hfit Aha hl16.1 hl16.2 (by decide) rfl ⟨x0, x1, x2, x3, x4, x5, x6, x7, x8, x9, x10, x11, x12, x13, x14, x15, trivial⟩
  obtain ⟨n, o, h1, h2, h3, _, L, rfl, ⟨rfl, N⟩, hq⟩ := rm_law l s _ hw tables_1 i0 hxa cha.cls s.heap s.heap.size (Nat.le_refl _) (Old.start s) Sha Vha p e ha hc hk s m _ below hf ((Spec.applies_iff_loose hf).mp happ).1 ⟨rfl, State.Warmed39.refl s, rfl⟩ trivial
  refine ⟨n, _, h1, h2, h3, hpost _ _ _ _ _ _ ⟨Cond.after_iff.mpr rfl, Cond.after_iff.mpr (eq_i res_at (Term.int_eval (1)) rfl), trivial⟩ ⟨hq.1, hq.2.1, (hq.2.2.sift fun y hy => Or.inr (N y hy)).mono (by decide) (by decide)⟩⟩
theorem main_1_1 : Claimed_1_1 := comes_1 fun _ _ _ _ _ _ h hF => ⟨h.1, hF⟩
theorem main_1_2 : Claimed_1_2 := comes_1 fun _ _ _ _ _ _ h hF => ⟨h.2.1, hF⟩
end Jvm.Pilot.@@N@@
namespace Jvm.Pilot.@@N@@
open Jvm Jvm.ClassFile Sem Op Lib Jvm.Free Jvm.Stand Jvm.Pilot.@@N@@.Jvm.D
/-! MADE BY PROGRAM (witnessworld.py) out of the Statement's table words and the real class files: 9 classes; the members and pool entries that the words name. The judged class is class 1, her method 2. -/
namespace start1
open Jvm.ClassFile
def u (s : String) : CpInfo := .utf8 (stringToUtf16 s)
/-- a pool by its gaps: so many unusable entries, then the entry; so many at the end -/
def gap : Nat → List CpInfo → List CpInfo
  | 0, r => r
  | n + 1, r => .unusable :: gap n r
def poolList (es : List (Nat × CpInfo)) (last : Nat) : List CpInfo := es.foldr (fun e r => gap e.1 (e.2 :: r)) (gap last [])
def pool (es : List (Nat × CpInfo)) (last : Nat) : Array CpInfo := ⟨poolList es last⟩
def fileOf (pool : Array CpInfo) (this : Nat) (attrs : Array Attribute := #[]) (ms : Array MethodInfo := #[]) (fl : Nat := 33) (sup : Nat := 0) (ifs : Array Nat := #[]) (fds : Array FieldInfo := #[]) : ClassFile where
  minorVersion := 0
  majorVersion := 65
  constantPool := pool
  accessFlags := fl
  thisClass := this
  superClass := sup
  interfaces := ifs
  fields := fds
  methods := ms
  attributes := attrs
def plain (name : String) (sup : Option ClassId) : Class where
  name := name
  kind := .ordinary
  loader := none
  accessFlags := 33
  super := sup
  interfaces := #[]
  cf := none
  fields := #[]
  methods := #[]
  instanceTypes := #[]
  staticTypes := #[]
  resolved := #[]
  callSites := []
  init := .initialized
  statics := none
  mirror := none

def pool0 : Array CpInfo := pool [(5, u "<init>"), (0, u "()V"), (1, .class_ 10), (1, u "java/lang/Object")] 113

def k0m0 : Method := { name := "<init>", desc := "()V", sig := { parameters := [], returnType := none }, accessFlags := 1, code := none }
/-- java/lang/Object -/
def k0 : Class := { plain "java/lang/Object" none with
  accessFlags := 33
  interfaces := #[]
  cf := some (fileOf pool0 8 #[] #[{ accessFlags := 1, nameIndex := 5, descriptorIndex := 6, attributes := #[] }] 33 0 #[] #[])
  fields := #[]
  methods := #[k0m0]
  instanceTypes := #[]
  staticTypes := #[]
  resolved := Array.replicate 124 none
  statics := none }

def pool1 : Array CpInfo := pool [(2, .class_ 4), (1, u "java/lang/Object"), (0, u "<init>"), (0, u "()V"), (0, .long 4294967295), (1, .methodref 10 11), (0, .class_ 12), (0, .nameAndType 13 14), (0, u "com/example/twinsite/twinsite/log/LogCodec"), (0, u "hexDigit"), (0, u "(JI)B"), (0, .methodref 16 17), (0, .class_ 18), (0, .nameAndType 19 20), (0, u "com/example/twinsite/twinsite/log/LogCodecHexDigitPinLaw"), (0, u "value"), (0, u "(B)I"), (0, .long 16), (4, u "law"), (0, u "(J)Z")] 2

def k1m0 : Method := { name := "<init>", desc := "()V", sig := { parameters := [], returnType := none }, accessFlags := 2, code := none }
def k1c1 : Code := { maxStack := 2, maxLocals := 1, code := method_2_code, exceptionTable := #[], attributes := #[] }
def k1m1 : Method := { name := "value", desc := "(B)I", sig := { parameters := [.byte], returnType := some .int }, accessFlags := 10, code := some k1c1 }
def k1c2 : Code := { maxStack := 4, maxLocals := 14, code := code, exceptionTable := #[], attributes := #[] }
def k1m2 : Method := { name := "law", desc := "(J)Z", sig := { parameters := [.long], returnType := some .boolean }, accessFlags := 9, code := some k1c2 }
/-- com/example/twinsite/twinsite/log/LogCodecHexDigitPinLaw -/
def k1 : Class := { plain "com/example/twinsite/twinsite/log/LogCodecHexDigitPinLaw" (some 0) with
  accessFlags := 49
  interfaces := #[]
  cf := some (fileOf pool1 16 #[] #[{ accessFlags := 2, nameIndex := 5, descriptorIndex := 6, attributes := #[] }, { accessFlags := 10, nameIndex := 19, descriptorIndex := 20, attributes := #[] }, { accessFlags := 9, nameIndex := 26, descriptorIndex := 27, attributes := #[] }] 49 2 #[] #[])
  fields := #[]
  methods := #[k1m0, k1m1, k1m2]
  instanceTypes := #[]
  staticTypes := #[]
  resolved := Array.replicate 30 none
  statics := none }

def pool2 : Array CpInfo := pool [(2, .class_ 4), (1, u "java/lang/Object"), (0, u "<init>"), (0, u "()V"), (1, .class_ 10), (1, u "com/example/twinsite/twinsite/log/LogCodec$Header"), (43, .class_ 56), (1, u "com/example/twinsite/twinsite/log/LogCodec"), (0, u "HEADER"), (0, u "Ljava/util/regex/Pattern;"), (50, .class_ 110), (0, u "com/example/twinsite/twinsite/log/LogCodec$LineWriter"), (12, .class_ 125), (1, u "com/example/twinsite/twinsite/log/LogCodec$Kind"), (136, .fieldref 54 263), (0, .nameAndType 264 265), (0, u "HEX"), (0, u "[B"), (11, u "VERSION"), (0, u "I"), (2, u "MAX_LINE_LENGTH"), (1, u "CRC_DIGITS"), (1, u "MAX_DIGITS"), (18, u "hexDigit"), (0, u "(JI)B")] 32

def k2m0 : Method := { name := "<init>", desc := "()V", sig := { parameters := [], returnType := none }, accessFlags := 2, code := none }
def k2c1 : Code := { maxStack := 6, maxLocals := 3, code := prog_62_method_12_code, exceptionTable := #[], attributes := #[] }
def k2m1 : Method := { name := "hexDigit", desc := "(JI)B", sig := { parameters := [.long, .int], returnType := some .byte }, accessFlags := 8, code := some k2c1 }
/-- com/example/twinsite/twinsite/log/LogCodec -/
def k2 : Class := { plain "com/example/twinsite/twinsite/log/LogCodec" (some 0) with
  accessFlags := 49
  interfaces := #[]
  cf := some (fileOf pool2 54 #[.nestMembers #[109, 123, 8]] #[{ accessFlags := 2, nameIndex := 5, descriptorIndex := 6, attributes := #[] }, { accessFlags := 8, nameIndex := 304, descriptorIndex := 305, attributes := #[] }] 49 2 #[] #[{ accessFlags := 25, nameIndex := 277, descriptorIndex := 278, attributes := #[] }, { accessFlags := 25, nameIndex := 281, descriptorIndex := 278, attributes := #[] }, { accessFlags := 26, nameIndex := 57, descriptorIndex := 58, attributes := #[] }, { accessFlags := 24, nameIndex := 283, descriptorIndex := 278, attributes := #[] }, { accessFlags := 26, nameIndex := 264, descriptorIndex := 265, attributes := #[] }, { accessFlags := 24, nameIndex := 285, descriptorIndex := 278, attributes := #[] }])
  fields := #[{ name := "VERSION", type := .int, accessFlags := 25, slot := 0, constantValue := 0 }, { name := "MAX_LINE_LENGTH", type := .int, accessFlags := 25, slot := 1, constantValue := 0 }, { name := "HEADER", type := (.object "java/util/regex/Pattern"), accessFlags := 26, slot := 2, constantValue := 0 }, { name := "CRC_DIGITS", type := .int, accessFlags := 24, slot := 3, constantValue := 0 }, { name := "HEX", type := (.array .byte), accessFlags := 26, slot := 4, constantValue := 0 }, { name := "MAX_DIGITS", type := .int, accessFlags := 24, slot := 5, constantValue := 0 }]
  methods := #[k2m0, k2m1]
  instanceTypes := #[]
  staticTypes := #[.int, .int, (.object "java/util/regex/Pattern"), .int, (.array .byte), .int]
  resolved := Array.replicate 338 none
  statics := some 0 }

def pool3 : Array CpInfo := pool [(1, u "java/lang/Cloneable"), (0, .class_ 1), (0, u "java/lang/Object"), (0, .class_ 3)] 3

/-- java/lang/Cloneable -/
def k3 : Class := { plain "java/lang/Cloneable" (some 0) with
  accessFlags := 1537
  interfaces := #[]
  cf := some (fileOf pool3 2 #[] #[] 1537 4 #[] #[])
  fields := #[]
  methods := #[]
  instanceTypes := #[]
  staticTypes := #[]
  resolved := Array.replicate 8 none
  statics := none }

def pool4 : Array CpInfo := pool [(1, u "java/io/Serializable"), (0, .class_ 1), (0, u "java/lang/Object"), (0, .class_ 3)] 3

/-- java/io/Serializable -/
def k4 : Class := { plain "java/io/Serializable" (some 0) with
  accessFlags := 1537
  interfaces := #[]
  cf := some (fileOf pool4 2 #[] #[] 1537 4 #[] #[])
  fields := #[]
  methods := #[]
  instanceTypes := #[]
  staticTypes := #[]
  resolved := Array.replicate 8 none
  statics := none }

/-- the primitive byte -/
def k5 : Class := { plain "byte" none with kind := .primitive 'B', accessFlags := 0x411 }
/-- [B -/
def k6 : Class := { plain "[B" (some 0) with kind := .array 5 .byte, interfaces := #[3, 4], accessFlags := 1041 }

/-- the primitive int -/
def k7 : Class := { plain "int" none with kind := .primitive 'I', accessFlags := 0x411 }
/-- [I -/
def k8 : Class := { plain "[I" (some 0) with kind := .array 7 .int, interfaces := #[3, 4], accessFlags := 1041 }

def heap : Heap := #[{ cls := 2, slots := #[.int 0, .int 0, .null, .int 0, .ref 1, .int 0], vm := .statics 2 },
  { cls := 6, slots := #[.int 48, .int 49, .int 50, .int 51, .int 52, .int 53, .int 54, .int 55, .int 56, .int 57, .int 97, .int 98, .int 99, .int 100, .int 101, .int 102], vm := .none }]
def classes : Array Class := #[k0, k1, k2, k3, k4, k5, k6, k7, k8]
def interned : List (Array UInt16 × Addr) := []
def slotsUsed : Nat := 22
def theMethod : MethodId := ⟨1, 2⟩
def args0 : Array Value := #[.long 5]
def aboutOver (below : List Frame) : State where
  vm := { classes := classes, interned := interned.toArray }
  heap := heap
  slotsUsed := slotsUsed
  threads := #[{ frames := .invoking theMethod args0 :: below }]
def below0 : List Frame := [.native { method := ⟨0, 0⟩, args := #[] }]
def about1 : State := aboutOver below0
def p0 : Program := .bare "" "" ""
def e0 : Env := launch0.env 0 0 0
theorem w_frames : about1.frames = Frame.invoking theMethod args0 :: below0 := rfl
set_option maxRecDepth 65536 in
theorem w_args : argsFit about1.vm theMethod args0 = true := by decide +kernel
set_option maxRecDepth 65536 in
theorem w_heap : heapFits about1 = true := by decide +kernel
set_option maxRecDepth 65536 in
theorem w_runnable : about1.curStatus? = some .runnable := by decide +kernel
set_option maxRecDepth 65536 in
theorem w_alone : about1.alone = true := by decide +kernel
set_option maxRecDepth 65536 in
theorem w_named : about1.methodNamed? x = some theMethod := by decide +kernel
set_option maxRecDepth 65536 in
theorem w_hears : about1.hears theMethod below0 = true := by decide +kernel
set_option maxRecDepth 65536 in
theorem w_ripe : about1.ripe theMethod args0 below0 = true := by decide +kernel
theorem w_running : about1.status = .running := rfl
set_option maxRecDepth 65536 in
theorem w_room : about1.hasRoom e0.platform room_1 = true :=
  launch0.hasRoom_least _ room_1 (by decide +kernel) (by decide +kernel) (by decide +kernel) (by decide +kernel) (by decide +kernel) (by decide +kernel)
theorem allAtoms_all (ts : List Jvm.Cond) (a : Array Jvm.Value) (st : Jvm.State) : (allAtoms ts).before a st = ts.all (fun c => c.before a st) := by
  induction ts with
  | nil => rfl
  | cons c t ih =>
    show (Jvm.Cond.and c (allAtoms t)).before a st = _
    rw [Jvm.Cond.before_and, ih, List.all_cons]
def words1 : List Jvm.Cond := Jvm.Cond.code x code maxLocals ret :: tables_1
/-- a 'code' word, met by the world's own term for the bytes: nothing is compared byte by byte -/
theorem code_word {y : MethodName} {bytes : ByteArray} {mx : Nat} {rt : Option FieldType} {a : Array Value} {s : State} {m : MethodId} {meth : Method} {c : Code} (h1 : s.methodNamed? y = some m) (h2 : s.vm.method? m = some meth) (h3 : meth.code = some c) (h4 : c.code = bytes)
    (h5 : (c.maxLocals == mx && c.exceptionTable.isEmpty && decide (c.maxStack ≤ mostOperands) && decide (meth.sig.returnType = rt) && !meth.locks && decide (parseMethodDescriptor y.desc = some meth.sig)) = true) : (Jvm.Cond.code y bytes mx rt).before a s = true := by
  simp only [Bool.and_eq_true, beq_iff_eq, Bool.not_eq_true', decide_eq_true_eq] at h5
  obtain ⟨⟨⟨⟨⟨g1, g2⟩, g3⟩, g4⟩, g5⟩, g6⟩ := h5
  simp [Cond.before, Cond.holds, Cond.value, h1, h2, h3, h4, g1, g2, g3, g4, g5, g6]
def isCode : Jvm.Cond → Bool
  | .code _ _ _ _ => true
  | _ => false
theorem all_split {L : List Jvm.Cond} {P : Jvm.Cond → Bool} (h1 : L.all (fun c => isCode c || P c) = true) (h2 : ∀ c ∈ L.filter isCode, P c = true) : L.all P = true := by
  refine List.all_eq_true.mpr fun c hc => ?_
  have h := List.all_eq_true.mp h1 c hc
  rcases Bool.eq_false_or_eq_true (isCode c) with hi | hi
  · exact h2 c (List.mem_filter.mpr ⟨hc, hi⟩)
  · simpa [hi] using h
set_option maxRecDepth 65536 in
theorem w_c0 : (Jvm.Cond.code x code maxLocals ret).before args0 about1 = true := code_word (m := ⟨1, 2⟩) (meth := k1m2) (c := k1c2) (by decide +kernel) rfl rfl rfl (by decide +kernel)
set_option maxRecDepth 65536 in
theorem w_c1 : (Jvm.Cond.code ({ cls := "com/example/twinsite/twinsite/log/LogCodec", name := "hexDigit", desc := "(JI)B" } : Jvm.MethodName) prog_62_method_12_code (3 : Nat) (Option.some Jvm.ClassFile.FieldType.byte)).before args0 about1 = true := code_word (m := ⟨2, 1⟩) (meth := k2m1) (c := k2c1) (by decide +kernel) rfl rfl rfl (by decide +kernel)
set_option maxRecDepth 65536 in
theorem w_c2 : (Jvm.Cond.code ({ cls := "com/example/twinsite/twinsite/log/LogCodecHexDigitPinLaw", name := "value", desc := "(B)I" } : Jvm.MethodName) method_2_code (1 : Nat) (Option.some Jvm.ClassFile.FieldType.int)).before args0 about1 = true := code_word (m := ⟨1, 1⟩) (meth := k1m1) (c := k1c1) (by decide +kernel) rfl rfl rfl (by decide +kernel)
def codes1 : List Jvm.Cond := [Jvm.Cond.code x code maxLocals ret, Jvm.Cond.code ({ cls := "com/example/twinsite/twinsite/log/LogCodec", name := "hexDigit", desc := "(JI)B" } : Jvm.MethodName) prog_62_method_12_code (3 : Nat) (Option.some Jvm.ClassFile.FieldType.byte), Jvm.Cond.code ({ cls := "com/example/twinsite/twinsite/log/LogCodecHexDigitPinLaw", name := "value", desc := "(B)I" } : Jvm.MethodName) method_2_code (1 : Nat) (Option.some Jvm.ClassFile.FieldType.int)]
set_option maxRecDepth 65536 in
theorem codes_eq : words1.filter isCode = codes1 := rfl
theorem w_codes : ∀ c ∈ words1.filter isCode, c.before args0 about1 = true := by
  rw [codes_eq]
  intro c hc
  simp only [codes1, List.mem_cons, List.not_mem_nil, or_false] at hc
  rcases hc with rfl | rfl | rfl
  · exact w_c0
  · exact w_c1
  · exact w_c2
set_option maxRecDepth 65536 in
theorem w_t1 : words1.all (fun c => isCode c || c.before args0 about1) = true := by decide +kernel
theorem w_tables : (allAtoms (Jvm.Cond.code x code maxLocals ret :: tables_1)).before args0 about1 = true := by
  rw [allAtoms_all]
  show words1.all (fun c => c.before args0 about1) = true
  refine all_split ?_ w_codes
  rw [w_t1]
set_option maxRecDepth 65536 in
theorem w_case : (Jvm.Cond.and given_1 narrow_1).before args0 about1 = true := by decide +kernel
theorem w_applies : (headSpec (Jvm.Cond.code x code maxLocals ret :: tables_1) room_1).applies x e0.platform about1 = true :=
  (Spec.applies_iff w_frames).mpr ⟨w_running, w_runnable, w_alone, w_named, w_hears, w_ripe, w_room, w_tables⟩
theorem atStart : AtStart classFile x code maxLocals ret World_1 tables_1 room_1 Calls_1 rest_1 Pre_1 launch0 p0 e0 about1 theMethod args0 below0 :=
  ⟨lists_1, trivial, launch0.admits_env _ _ _, launch0.least_env, fairChoices_fair.cas, fairChoices_fair.clock, w_frames, w_args, w_heap, w_applies, trivial, trivial, w_case⟩
end start1
theorem witness_1 : WitnessClaimed_1 := ⟨start1.p0, start1.e0, start1.about1, start1.theMethod, start1.args0, start1.below0, start1.atStart⟩
end Jvm.Pilot.@@N@@

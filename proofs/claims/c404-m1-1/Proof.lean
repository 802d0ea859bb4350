import JvmDerived
import JvmDerived.Pilot.@@N@@Statement
import JvmDerived.Pilot.@@N@@Code
set_option linter.unusedVariables false
set_option linter.unusedSimpArgs false
namespace Jvm.Pilot.@@N@@
open Jvm Jvm.ClassFile Sem Op Lib Jvm.Free Jvm.Stand Jvm.LawKit Jvm.RoadKit Bundle Jvm.Pilot.@@N@@.Jvm.D
def Go (p : Program) (e : Env) (below : List Frame) (s : State) (Q : Option Value → Heap → List Loc → Prop) (C S : Nat) (V : State) : Prop :=
  ∃ (U : State) (o : Outcome), Steps p.tables e below V U ∧ U.status = .running ∧ Ended U below o ∧ ∃ v L, o = .returned v ∧ Q v U.heap L ∧ FrameEnd s o U L C S
def Ga (p : Program) (e : Env) (below : List Frame) (s : State) (Q : Option Value → Heap → List Loc → Prop) (C S : Nat) (T : State) (m : MethodId) (pc : Nat) (Ls : Array Slot) (st : List Value) : Prop :=
  Go p e below s Q C S (T.setTop (mkF m pc Ls st))
abbrev Ct (l : Launch) (Z : State) (y : MethodName) (bytes : ByteArray) (maxL : Nat) (ret : Option FieldType) (ws : List Jvm.Cond) (rm : Room) (as' : Array Value) (h0 : Heap) (Q : Option Value → Heap → List Loc → Prop) : Prop :=
  MetFree l y (head1 (Jvm.Cond.code y bytes maxL ret :: ws) rm) (fun a U => a = as' ∧ Z.Warmed39 U.vm ∧ U.heap = h0) (fun _ _ _ _ _ => True) (fun _ U o U' => ∃ v L, o = .returned v ∧ Q v U'.heap L ∧ FrameEnd U o U' L rm.cells rm.slots)
section GoKit
variable {p : Program} {l : Launch} {e : Env} {R : Room} {s : State} {m : MethodId} {args : Array Value} {below : List Frame} {meth : Method} {c : Code} {T T' : State} {locs : List Loc} {cells slots : Nat} {Q : Option Value → Heap → List Loc → Prop} {C S : Nat} {Z : State} {a0 : Array Value} {h : Heap} {pc q pc' : Nat} {Ls Ls' : Array Slot} {st st' : List Value} {own : String}
theorem Ga.stp (k : ∀ t, Steps p.tables e below (T'.setTop (mkF m pc' Ls' st')) t → Steps p.tables e below (T.setTop (mkF m pc Ls st)) t) (g : Ga p e below s Q C S T' m pc' Ls' st') : Ga p e below s Q C S T m pc Ls st := by
  obtain ⟨U, o, h, r⟩ := g
  exact ⟨U, o, k _ h, r⟩
theorem own_body {y : MethodName} {bytes : ByteArray} {maxL : Nat} {ret : Option FieldType} {ws : List Jvm.Cond} {rm : Room} {h0 : Heap} {as' : Array Value} (hpl : plainFor y = true) (hef : ∀ m, entryFrame m as' maxL = mkF m 0 Ls [])
    (body : ∀ (p : Program) (e : Env) (s : State) (m : MethodId) (below : List Frame) (meth : Method) (c : Code) (T : State), p.tables.exec = Jvm.exec → c.code = bytes → c.maxLocals = maxL → Z.Warmed39 s.vm → s.vm.findClass y.cls = some m.cls → meth.name = y.name → meth.sig.returnType = ret → meth.locks = false →
      Stand p l e rm s m as' below meth c T [] 0 0 → T.heap = h0 → Ga p e below s Q rm.cells rm.slots T m 0 Ls []) : Ct l Z y bytes maxL ret ws rm as' h0 Q := by
  refine MetFree.of_bodySF hpl hisR ?_
  intro p e s m args below meth c s₁ Bd hml0 hP hK
  obtain ⟨rfl, hZ, hh⟩ := hP
  have X0 : Stand p l e rm s m args below meth c s₁ [] 0 0 := Stand.of_body Bd
  have e0 : s₁.heap = h0 := by rw [← hh, Bd.state]; rfl
  obtain ⟨U, o, g1, g2⟩ := body p e s m below meth c s₁ Bd.exec Bd.bytes hml0 hZ (findClass_of_methodNamed Bd.named) (name_of_methodNamed Bd.named Bd.method).1 Bd.returns (BodyLoose.notSynchronized Bd) X0 e0
  exact ⟨U, o, castTop (hef m) g1, g2⟩
theorem Ga.out (X : Stand p l e R s m args below meth c T locs cells slots) {v : Option Value} (hlk : meth.locks = false) (hv : meth.sig.returnType = none → v = none) (hc : cells ≤ C) (hs : slots ≤ S) (hq : Q v T.heap locs)
    (k : ∀ fs, (∀ (f : JFrame) (acts : List Action), f.method = m → f.locked = none → f.entered = [] → (doReturn e (T.setTop f) acts v).1 = T.setFrames fs) → Steps p.tables e below (T.setTop (mkF m pc Ls st)) (T.setFrames fs)) : Ga p e below s Q C S T m pc Ls st := by
  obtain ⟨fs, hr, hrun, hended, hW, hsame⟩ := X.leave (v := v) hv hlk
  exact ⟨_, _, k fs hr, hrun, hended, _, _, rfl, hq, ⟨_, rfl⟩, hW, hsame.mono hc hs⟩
theorem g_iloadN (X : Stand p l e R s m args below meth c T locs cells slots) (hx : p.tables.exec = Jvm.exec) {k : Fin 4} {v : Int32} (hd : decode c.code pc = .ok (.iload_n k, 1)) (hp : pc + 1 = q) (hl : Ls[k.val]? = some (.val (.int v))) (g : Ga p e below s Q C S T m q Ls (.int v :: st)) : Ga p e below s Q C S T m pc Ls st := by
  subst hp
  exact Ga.stp (fun _ k => XS.iloadN X.here hx rfl hd hl k) g
theorem g_iload (X : Stand p l e R s m args below meth c T locs cells slots) (hx : p.tables.exec = Jvm.exec) {k : Nat} {v : Int32} (hd : decode c.code pc = .ok (.iload k, 2)) (hp : pc + 2 = q) (hl : Ls[k]? = some (.val (.int v))) (g : Ga p e below s Q C S T m q Ls (.int v :: st)) : Ga p e below s Q C S T m pc Ls st := by
  subst hp
  exact Ga.stp (fun _ k => XS.iload X.here hx rfl hd hl k) g
theorem g_aloadN (X : Stand p l e R s m args below meth c T locs cells slots) (hx : p.tables.exec = Jvm.exec) {k : Fin 4} {v : Value} (hd : decode c.code pc = .ok (.aload_n k, 1)) (hp : pc + 1 = q) (hl : Ls[k.val]? = some (.val v)) (hv : v.isRef = true) (g : Ga p e below s Q C S T m q Ls (v :: st)) : Ga p e below s Q C S T m pc Ls st := by
  subst hp
  exact Ga.stp (fun _ k => XS.aloadN X.here hx rfl hd hl hv k) g
theorem g_aload (X : Stand p l e R s m args below meth c T locs cells slots) (hx : p.tables.exec = Jvm.exec) {k : Nat} {v : Value} (hd : decode c.code pc = .ok (.aload k, 2)) (hp : pc + 2 = q) (hl : Ls[k]? = some (.val v)) (hv : v.isRef = true) (g : Ga p e below s Q C S T m q Ls (v :: st)) : Ga p e below s Q C S T m pc Ls st := by
  subst hp
  exact Ga.stp (fun _ k => XS.aload X.here hx rfl hd hl hv k) g
theorem g_istore (X : Stand p l e R s m args below meth c T locs cells slots) (hx : p.tables.exec = Jvm.exec) {k : Nat} {x : Int32} (hd : decode c.code pc = .ok (.istore k, 2)) (hp : pc + 2 = q) (hl : storeLocals Ls k (.int x) = some Ls') (g : Ga p e below s Q C S T m q Ls' st) : Ga p e below s Q C S T m pc Ls (.int x :: st) := by
  subst hp
  exact Ga.stp (fun _ k => XS.istore X.here hx rfl hd rfl hl k) g
theorem g_astore (X : Stand p l e R s m args below meth c T locs cells slots) (hx : p.tables.exec = Jvm.exec) {k : Nat} {x : Value} (hd : decode c.code pc = .ok (.astore k, 2)) (hp : pc + 2 = q) (hv : x.isRef = true) (hl : storeLocals Ls k x = some Ls') (g : Ga p e below s Q C S T m q Ls' st) : Ga p e below s Q C S T m pc Ls (x :: st) := by
  subst hp
  exact Ga.stp (fun _ k => XS.astore X.here hx rfl hd rfl hv hl k) g
theorem g_iconst (X : Stand p l e R s m args below meth c T locs cells slots) (hx : p.tables.exec = Jvm.exec) {i : Int} {r : Int32} (hd : decode c.code pc = .ok (.iconst i, 1)) (hp : pc + 1 = q) (hr : Int32.ofInt i = r) (g : Ga p e below s Q C S T m q Ls (.int r :: st)) : Ga p e below s Q C S T m pc Ls st := by
  subst hp hr
  exact Ga.stp (fun _ k => XS.iconst X.here hx rfl hd k) g
theorem g_iand (X : Stand p l e R s m args below meth c T locs cells slots) (hx : p.tables.exec = Jvm.exec) {x y r : Int32} (hd : decode c.code pc = .ok (.iand, 1)) (hp : pc + 1 = q) (hr : x &&& y = r) (g : Ga p e below s Q C S T m q Ls (.int r :: st)) : Ga p e below s Q C S T m pc Ls (.int y :: .int x :: st) := by
  subst hp hr
  exact Ga.stp (fun _ k => XS.iand X.here hx rfl hd rfl k) g
theorem g_dup (X : Stand p l e R s m args below meth c T locs cells slots) (hx : p.tables.exec = Jvm.exec) {x : Value} (hd : decode c.code pc = .ok (.dup, 1)) (hp : pc + 1 = q) (hc : x.category = 1) (g : Ga p e below s Q C S T m q Ls (x :: x :: st)) : Ga p e below s Q C S T m pc Ls (x :: st) := by
  subst hp
  exact Ga.stp (fun _ k => XS.dup X.here hx rfl hd rfl hc k) g
theorem g_goto (X : Stand p l e R s m args below meth c T locs cells slots) (hx : p.tables.exec = Jvm.exec) {o : Int} (hd : decode c.code pc = .ok (.goto o, 3)) (ho : 0 ≤ (pc : Int) + o) (hp : ((pc : Int) + o).toNat = q) (g : Ga p e below s Q C S T m q Ls st) : Ga p e below s Q C S T m pc Ls st :=
  Ga.stp (fun _ k => XS.goto X.here hx rfl rfl hd ho hp k) g
theorem g_ifY (X : Stand p l e R s m args below meth c T locs cells slots) (hx : p.tables.exec = Jvm.exec) {cd : ClassFile.Cond} {x : Int32} {o : Int} (hd : decode c.code pc = .ok (.ifCond cd o, 3)) (hc : ifCond.holds cd x = true) (ho : 0 ≤ (pc : Int) + o) (hp : ((pc : Int) + o).toNat = q) (g : Ga p e below s Q C S T m q Ls st) : Ga p e below s Q C S T m pc Ls (.int x :: st) :=
  Ga.stp (fun _ k => XS.ifYes X.here hx rfl rfl hd rfl hc ho hp k) g
theorem g_ifN (X : Stand p l e R s m args below meth c T locs cells slots) (hx : p.tables.exec = Jvm.exec) {cd : ClassFile.Cond} {x : Int32} {o : Int} (hd : decode c.code pc = .ok (.ifCond cd o, 3)) (hp : pc + 3 = q) (hc : ifCond.holds cd x = false) (g : Ga p e below s Q C S T m q Ls st) : Ga p e below s Q C S T m pc Ls (.int x :: st) := by
  subst hp
  exact Ga.stp (fun _ k => XS.ifNo X.here hx rfl hd rfl hc k) g
theorem g_icmpY (X : Stand p l e R s m args below meth c T locs cells slots) (hx : p.tables.exec = Jvm.exec) {cd : ClassFile.Cond} {x y : Int32} {o : Int} (hd : decode c.code pc = .ok (.if_icmp cd o, 3)) (hc : if_icmp.holds cd x y = true) (ho : 0 ≤ (pc : Int) + o) (hp : ((pc : Int) + o).toNat = q) (g : Ga p e below s Q C S T m q Ls st) : Ga p e below s Q C S T m pc Ls (.int y :: .int x :: st) :=
  Ga.stp (fun _ k => XS.icmpYes X.here hx rfl rfl hd rfl hc ho hp k) g
theorem g_icmpN (X : Stand p l e R s m args below meth c T locs cells slots) (hx : p.tables.exec = Jvm.exec) {cd : ClassFile.Cond} {x y : Int32} {o : Int} (hd : decode c.code pc = .ok (.if_icmp cd o, 3)) (hp : pc + 3 = q) (hc : if_icmp.holds cd x y = false) (g : Ga p e below s Q C S T m q Ls st) : Ga p e below s Q C S T m pc Ls (.int y :: .int x :: st) := by
  subst hp
  exact Ga.stp (fun _ k => XS.icmpNo X.here hx rfl hd rfl hc k) g
theorem g_ifnonnullY (X : Stand p l e R s m args below meth c T locs cells slots) (hx : p.tables.exec = Jvm.exec) {b : Addr} {o : Int} (hd : decode c.code pc = .ok (.ifnonnull o, 3)) (ho : 0 ≤ (pc : Int) + o) (hp : ((pc : Int) + o).toNat = q) (g : Ga p e below s Q C S T m q Ls st) : Ga p e below s Q C S T m pc Ls ((.ref b) :: st) :=
  Ga.stp (fun _ k => XS.ifnonnullYes X.here hx rfl rfl hd rfl ho hp k) g
theorem g_retI (X : Stand p l e R s m args below meth c T locs cells slots) (hx : p.tables.exec = Jvm.exec) {z : Int32} (hret : meth.sig.returnType = some .int) (hlk : meth.locks = false) (hd : decode c.code pc = .ok (.ireturn, 1)) (hc : cells ≤ C) (hs : slots ≤ S) (hq : Q (some (.int z)) T.heap locs) : Ga p e below s Q C S T m pc Ls (.int z :: st) :=
  Ga.out X hlk (fun h => by rw [hret] at h; cases h) hc hs hq fun fs hr => retOut X hx hret rfl (Or.inl ⟨rfl, Or.inl rfl, z, rfl⟩) hd hr
theorem g_retN (X : Stand p l e R s m args below meth c T locs cells slots) (hx : p.tables.exec = Jvm.exec) {z r : Int32} {t : FieldType} (hret : meth.sig.returnType = some t) (ht : t = .boolean ∨ t = .byte ∨ t = .char ∨ t = .short) (hlk : meth.locks = false) (hd : decode c.code pc = .ok (.ireturn, 1)) (hr : nar t z = r) (hc : cells ≤ C) (hs : slots ≤ S) (hq : Q (some (.int r)) T.heap locs) : Ga p e below s Q C S T m pc Ls (.int z :: st) := by
  subst hr
  exact Ga.out X hlk (fun h => by rw [hret] at h; cases h) hc hs hq fun fs hr => retN X hx hret ht hd hr
theorem g_retR (X : Stand p l e R s m args below meth c T locs cells slots) (hx : p.tables.exec = Jvm.exec) {w : Value} {t : FieldType} (hret : meth.sig.returnType = some t) (hlk : meth.locks = false) (ht : t.isReference = true) (hn : narrow t w = w) (hw : w.isRef = true) (hd : decode c.code pc = .ok (.areturn, 1)) (hc : cells ≤ C) (hs : slots ≤ S) (hq : Q (some w) T.heap locs) : Ga p e below s Q C S T m pc Ls (w :: st) :=
  Ga.out X hlk (fun h => by rw [hret] at h; cases h) hc hs hq fun fs hr => retOut X hx hret hn (Or.inr (Or.inr (Or.inr (Or.inr ⟨rfl, ht, hw⟩)))) hd hr
theorem g_ret (X : Stand p l e R s m args below meth c T locs cells slots) (hx : p.tables.exec = Jvm.exec) (hret : meth.sig.returnType = none) (hlk : meth.locks = false) (hd : decode c.code pc = .ok (.return_, 1)) (hc : cells ≤ C) (hs : slots ≤ S) (hq : Q none T.heap locs) : Ga p e below s Q C S T m pc Ls [] :=
  Ga.out X hlk (fun _ => rfl) hc hs hq fun fs hr => X.returnOut hx hret hd hr
theorem g_ldcI (X : Stand p l e R s m args below meth c T locs cells slots) (hx : p.tables.exec = Jvm.exec) (hZ : Z.Warmed39 s.vm) (hown : s.vm.findClass own = some m.cls) {index : Nat} {v : Int32} (w : (Cond.constant own index v).before a0 Z = true) (hd : decode c.code pc = .ok (.ldc index, 2)) (hp : pc + 2 = q) (g : Ga p e below s Q C S T m q Ls (.int v :: st)) : Ga p e below s Q C S T m pc Ls st := by
  subst hp
  exact Ga.stp (fun t k => X.ldcInt hx hown (mvT hZ w) (g := mkF m pc Ls st) rfl hd t k) g
theorem g_new (X : Stand p l e R s m args below meth c T locs cells slots) (hx : p.tables.exec = Jvm.exec) (hZ : Z.Warmed39 s.vm) (hown : s.vm.findClass own = some m.cls) {K : String} {index n : Nat} (w : (Cond.classLink own index K).before a0 Z = true) (wi : (Cond.instantiable K n).before a0 Z = true) (wz : (Cond.initialized K).before a0 Z = true) (eT : T.heap = h)
    (hd : decode c.code pc = .ok (.new index, 3)) (hp : pc + 3 = q) (hc : cells + 1 ≤ R.cells) (hl : slots + n ≤ R.slots)
    (k : ∀ T' h' b, Stand p l e R s m args below meth c T' locs (cells + 1) (slots + n) → T'.heap = h' → b = h.size → Ext h h' → Exa Z h' b K → (∀ {O nm d : String} {ty : FieldType}, Laid Z a0 K O nm d → parseFieldDescriptor d = some ty → Fld Z h' b O nm d (defaultValue ty)) → Ga p e below s Q C S T' m q Ls (.ref b :: st)) : Ga p e below s Q C S T m pc Ls st := by
  subst hp
  obtain ⟨T', h', X', e', E', A', D', -, sx⟩ := newO X hx hZ hown w wi wz eT (g := mkF m pc Ls st) rfl hd hc hl
  exact Ga.stp sx (k T' h' _ X' e' rfl E' A' D')
theorem g_getF (X : Stand p l e R s m args below meth c T locs cells slots) (hx : p.tables.exec = Jvm.exec) (hZ : Z.Warmed39 s.vm) (hown : s.vm.findClass own = some m.cls) {R0 O n d host : String} {index : Nat} (w : (Cond.fieldLink own index R0 n d).before a0 Z = true ∨ (Cond.fieldLinkNest own index R0 n d host).before a0 Z = true) (via : Via Z R0 O n d) (eT : T.heap = h) {a : Addr} {v : Value} (F : Fld Z h a O n d v)
    (hd : decode c.code pc = .ok (.getfield index, 3)) (hp : pc + 3 = q) (k : ∀ T', Stand p l e R s m args below meth c T' locs cells slots → T'.heap = h → Ga p e below s Q C S T' m q Ls (v :: st)) : Ga p e below s Q C S T m pc Ls (.ref a :: st) := by
  subst hp
  obtain ⟨T', X', e', sx⟩ := getF X hx hZ hown w via eT F (g := mkF m pc Ls (.ref a :: st)) rfl rfl hd
  exact Ga.stp sx (k T' X' e')
theorem g_putF (X : Stand p l e R s m args below meth c T locs cells slots) (hx : p.tables.exec = Jvm.exec) (hZ : Z.Warmed39 s.vm) (hown : s.vm.findClass own = some m.cls) {R0 O n d host K : String} {index kk : Nat} {ty : FieldType} (w : (Cond.fieldLink own index R0 n d).before a0 Z = true ∨ (Cond.fieldLinkNest own index R0 n d host).before a0 Z = true) (via : Via Z R0 O n d) (eT : T.heap = h) {a : Addr} {v old : Value} (F : Fld Z h a O n d old) (E : Exa Z h a K)
    (L : (Cond.lays K O n d).before a0 Z = true ∨ ((Cond.laysFinal K O n d).before a0 Z = true ∧ own = O ∧ meth.name = "<init>")) (wi : (Cond.instantiable K kk).before a0 Z = true) (hty : parseFieldDescriptor d = some ty) (hn : narrow ty v = v) (hf : fits ty v = true)
    (hd : decode c.code pc = .ok (.putfield index, 3)) (hp : pc + 3 = q) (k : ∀ T' h', Stand p l e R s m args below meth c T' (locs ++ [⟨a, Jvm.RoadKit.slotOf Z O n d⟩]) cells slots → T'.heap = h' → Wr h h' a (Jvm.RoadKit.slotOf Z O n d) v → Fld Z h' a O n d v → Ga p e below s Q C S T' m q Ls st) : Ga p e below s Q C S T m pc Ls (v :: .ref a :: st) := by
  subst hp
  obtain ⟨T', h', X', e', W', sx⟩ := putF X hx hZ hown w via eT F E L wi hty hn hf (g := mkF m pc Ls (v :: .ref a :: st)) rfl rfl hd
  exact Ga.stp sx (k T' h' X' e' W' (F.same W'))
theorem g_initO (X : Stand p l e R s m args below meth c T locs cells slots) (hx : p.tables.exec = Jvm.exec) (hZ : Z.Warmed39 s.vm) (hown : s.vm.findClass own = some m.cls) {idx : Nat} (w1 : (Cond.methodLink own idx Lib.objectInit).before a0 Z = true) (w2 : (Cond.instanceMethod Lib.objectInit).before a0 Z = true) (w3 : (Cond.code Lib.objectInit ⟨#[0xb1]⟩ 1 none).before a0 Z = true) (eT : T.heap = h) (hsz : Ls.size = c.maxLocals) {a : Addr}
    (hd : decode c.code pc = .ok (.invokespecial idx, 3)) (hp : pc + 3 = q) (hf : 1 ≤ R.frames) {W : Nat} (hW : (st.map fun v => v.category).sum ≤ W) (hl : W + 12 ≤ R.locals) (k : ∀ T', Stand p l e R s m args below meth c T' locs cells slots → T'.heap = h → Ga p e below s Q C S T' m q Ls st) : Ga p e below s Q C S T m pc Ls (.ref a :: st) := by
  subst hp
  obtain ⟨T', X', e', sx⟩ := initO X hx hZ hown w1 w2 w3 eT (g := mkF m pc Ls (.ref a :: st)) rfl hsz rfl hd hf (W := W) (by show 2 * 0 + _ ≤ _; omega) hl
  exact Ga.stp sx (k T' X' e')
theorem g_special (X : Stand p l e R s m args below meth c T locs cells slots) (hx : p.tables.exec = Jvm.exec) (hZ : Z.Warmed39 s.vm) (hown : s.vm.findClass own = some m.cls) {index : Nat} {y : MethodName} {bytes : ByteArray} {maxL : Nat} {rm : Room} {as' : Array Value} {Q' : Option Value → Heap → List Loc → Prop} (hy1 : y.name = "<init>") (w1 : (Cond.methodLink own index y).before a0 Z = true) (w2 : (Cond.instanceMethod y).before a0 Z = true) (w3 : (Cond.initialized y.cls).before a0 Z = true) (w4 : (Cond.code y bytes maxL none).before a0 Z = true) (hy : y.cls ≠ "java/lang/invoke/MethodHandle" ∧ y.cls ≠ "java/lang/invoke/VarHandle") {a : Addr}
    (hM : Ct l Z y bytes maxL none [] rm as' h Q') (hsz : Ls.size = c.maxLocals) (eT : T.heap = h) (argsL : List Value) {rest : List Value} (has : as' = (.ref a :: argsL).toArray) (hst : st = argsL.reverse ++ .ref a :: rest) {W : Nat} (hW : (rest.map fun v => v.category).sum ≤ W) (hf : rm.frames + 1 ≤ R.frames) (hl : W + (maxL + 11) + rm.locals ≤ R.locals) (hcl : cells + rm.cells ≤ R.cells) (hsl : slots + rm.slots ≤ R.slots) (hlen : ∀ sig, parseMethodDescriptor y.desc = some sig → argsL.length = sig.parameters.length) (hd : decode c.code pc = .ok (.invokespecial index, 3)) (hp : pc + 3 = q) (k : ∀ v T' L, Stand p l e R s m args below meth c T' (locs ++ L) (cells + rm.cells) (slots + rm.slots) → Q' v T'.heap L → Ga p e below s Q C S T' m q Ls (v.toList ++ rest)) : Ga p e below s Q C S T m pc Ls st := by
  subst hp has hst
  obtain ⟨_, _, ⟨T', L', k', n'⟩, -, X', ⟨Lc, hQ', l1, y1, z1⟩, sx⟩ := X.specialBack hx (y := y) hy1 hown (mvT hZ w1) (mvT hZ w2) (mvT hZ w4) hy (backOf (W := W) hM hZ w4 w3 hf hl) (g := mkF m pc Ls (argsL.reverse ++ .ref a :: rest)) rfl hsz (Steps.refl _) (a := a) (argsL := argsL) (rest := rest) hlen rfl (by show 2 * 0 + _ ≤ _; omega) hd (fun _ _ => ⟨rfl, eT, hcl, hsl⟩)
  dsimp only [Pt.U, Pt.locs, Pt.cells, Pt.slots] at X' l1 y1 z1 sx hQ'
  subst l1 y1 z1
  exact Ga.stp (fun _ kk => sx.trans kk) (k _ T' Lc X' hQ')
theorem g_virtual (X : Stand p l e R s m args below meth c T locs cells slots) (hx : p.tables.exec = Jvm.exec) (hZ : Z.Warmed39 s.vm) (hown : s.vm.findClass own = some m.cls) {index : Nat} {y z : MethodName} {K : String} {ret : Option FieldType} {bytes : ByteArray} {maxL : Nat} {rm : Room} {as' : Array Value} {Q' : Option Value → Heap → List Loc → Prop} (w1 : (Cond.methodLink own index y).before a0 Z = true) (w2 : (Cond.declares y).before a0 Z = true) (nf : NotFace s y) (w3 : (Cond.selects K y z).before a0 Z = true) (w4 : (Cond.instanceMethod z).before a0 Z = true) (w5 : (Cond.initialized z.cls).before a0 Z = true) (w6 : (Cond.code z bytes maxL ret).before a0 Z = true) (hy : y.cls ≠ "java/lang/invoke/MethodHandle" ∧ y.cls ≠ "java/lang/invoke/VarHandle") {a : Addr} (E : Exa Z h a K)
    (hM : Ct l Z z bytes maxL ret [] rm as' h Q') (hsz : Ls.size = c.maxLocals) (eT : T.heap = h) (argsL : List Value) {rest : List Value} (has : as' = (.ref a :: argsL).toArray) (hst : st = argsL.reverse ++ .ref a :: rest) {W : Nat} (hW : (rest.map fun v => v.category).sum ≤ W) (hf : rm.frames + 1 ≤ R.frames) (hl : W + (maxL + 11) + rm.locals ≤ R.locals) (hcl : cells + rm.cells ≤ R.cells) (hsl : slots + rm.slots ≤ R.slots) (hlen : ∀ sig, parseMethodDescriptor y.desc = some sig → argsL.length = sig.parameters.length) (hd : decode c.code pc = .ok (.invokevirtual index, 3)) (hp : pc + 3 = q) (k : ∀ v T' L, Stand p l e R s m args below meth c T' (locs ++ L) (cells + rm.cells) (slots + rm.slots) → Q' v T'.heap L → Ga p e below s Q C S T' m q Ls (v.toList ++ rest)) : Ga p e below s Q C S T m pc Ls st := by
  subst hp has hst
  obtain ⟨cq, kq, qa, qb, qc⟩ := isOf hZ eT E
  obtain ⟨_, _, ⟨T', L', k', n'⟩, -, X', ⟨Lc, hQ', l1, y1, z1⟩, sx⟩ := X.virtualBack hx (y := y) (z := z) hown (mvT hZ w1) (mvT hZ w2) nf (mvT hZ w3) (mvT hZ w4) hy (backOf (W := W) hM hZ w6 w5 hf hl) qa qc (g := mkF m pc Ls (argsL.reverse ++ .ref a :: rest)) rfl hsz (Steps.refl _) (argsL := argsL) (rest := rest) hlen rfl (by show 2 * 0 + _ ≤ _; omega) hd (fun _ _ => ⟨rfl, eT, hcl, hsl⟩)
  dsimp only [Pt.U, Pt.locs, Pt.cells, Pt.slots] at X' l1 y1 z1 sx hQ'
  subst l1 y1 z1
  exact Ga.stp (fun _ kk => sx.trans kk) (k _ T' Lc X' hQ')
variable {ka : ClassId} {ty : FieldType} {z j : Int32} {vs : List Value} {dv : Value} {a : Addr}
theorem own_ne {b : Addr} (h1 : a < h.size) (h2 : b = h.size) : a ≠ b := Nat.ne_of_lt (h2 ▸ h1)
theorem own_neK {b : Addr} (h1 : a < h.size) (h2 : h.size ≤ b) : a ≠ b := Nat.ne_of_lt (Nat.lt_of_lt_of_le h1 h2)
end GoKit

theorem own_irrI (x : Int32) : ¬ x < x := Int32.lt_irrefl
theorem own_irrJ (x : Int64) : ¬ x < x := Int64.lt_irrefl
theorem own_narc (x : Int32) : nar .char (x &&& (255 : Int32)) = (x &&& (255 : Int32)) := i2c_mask x
theorem own_nar (x : Int32) : nar .byte x = x.toInt8.toInt32 := rfl
theorem own_bb (x : Int32) : x.toInt8.toInt32.toInt8.toInt32 = x.toInt8.toInt32 := by simp
theorem own_nb {h : Heap} {b b' y : Addr} (hb : b' = b ∨ h.size ≤ b') (lt : y < h.size) (ne : y ≠ b) : y ≠ b' := hb.elim (fun q => q ▸ ne) (fun q => Nat.ne_of_lt (Nat.lt_of_lt_of_le lt q))
theorem own_ng {h : Heap} {b b' : Addr} {n0 : Nat} (hb : b' = b ∨ h.size ≤ b') (g : n0 ≤ b) (Z : n0 ≤ h.size) : n0 ≤ b' := hb.elim (fun q => q ▸ g) (fun q => Nat.le_trans Z q)
theorem own_insK {Z : State} {h h' : Heap} {a : Addr} {C : String} {ws : List Addr} (F : Ins Z h a C true) (K : Keep h h' ws) : Ins Z h' a C true := by
  obtain ⟨cell, cT, h1, h2, h3⟩ := F
  obtain ⟨c', q1, q2, q3, -⟩ := K.2.2 _ _ h1
  exact ⟨c', cT, q1, h2, by rw [q2, q3]; exact h3⟩
theorem d_jdk_30_m_1_0 : decode jdk_30_method_1_code 0 = .ok (.aload_n 0, 1) := by decide +kernel
theorem d_jdk_30_m_1_1 : decode jdk_30_method_1_code 1 = .ok (.invokespecial 1, 3) := by decide +kernel
theorem d_jdk_30_m_1_4 : decode jdk_30_method_1_code 4 = .ok (.return_, 1) := by decide +kernel
theorem d_prog_3_m_1_0 : decode prog_3_method_1_code 0 = .ok (.aload_n 0, 1) := by decide +kernel
theorem d_prog_3_m_1_1 : decode prog_3_method_1_code 1 = .ok (.invokespecial 1, 3) := by decide +kernel
theorem d_prog_3_m_1_4 : decode prog_3_method_1_code 4 = .ok (.iload_n 1, 1) := by decide +kernel
theorem d_prog_3_m_1_5 : decode prog_3_method_1_code 5 = .ok (.iconst 1, 1) := by decide +kernel
theorem d_prog_3_m_1_6 : decode prog_3_method_1_code 6 = .ok (.if_icmp .lt 8, 3) := by decide +kernel
theorem d_prog_3_m_1_9 : decode prog_3_method_1_code 9 = .ok (.iload_n 2, 1) := by decide +kernel
theorem d_prog_3_m_1_10 : decode prog_3_method_1_code 10 = .ok (.iconst 1, 1) := by decide +kernel
theorem d_prog_3_m_1_11 : decode prog_3_method_1_code 11 = .ok (.if_icmp .ge 18, 3) := by decide +kernel
theorem d_prog_3_m_1_29 : decode prog_3_method_1_code 29 = .ok (.aload_n 0, 1) := by decide +kernel
theorem d_prog_3_m_1_30 : decode prog_3_method_1_code 30 = .ok (.iload_n 1, 1) := by decide +kernel
theorem d_prog_3_m_1_31 : decode prog_3_method_1_code 31 = .ok (.putfield 16, 3) := by decide +kernel
theorem d_prog_3_m_1_34 : decode prog_3_method_1_code 34 = .ok (.aload_n 0, 1) := by decide +kernel
theorem d_prog_3_m_1_35 : decode prog_3_method_1_code 35 = .ok (.iload_n 2, 1) := by decide +kernel
theorem d_prog_3_m_1_36 : decode prog_3_method_1_code 36 = .ok (.putfield 22, 3) := by decide +kernel
theorem d_prog_3_m_1_39 : decode prog_3_method_1_code 39 = .ok (.return_, 1) := by decide +kernel
theorem d_prog_11_m_1_0 : decode prog_11_method_1_code 0 = .ok (.aload_n 0, 1) := by decide +kernel
theorem d_prog_11_m_1_1 : decode prog_11_method_1_code 1 = .ok (.invokespecial 1, 3) := by decide +kernel
theorem d_prog_11_m_1_4 : decode prog_11_method_1_code 4 = .ok (.iload_n 1, 1) := by decide +kernel
theorem d_prog_11_m_1_5 : decode prog_11_method_1_code 5 = .ok (.ifCond .lt 18, 3) := by decide +kernel
theorem d_prog_11_m_1_8 : decode prog_11_method_1_code 8 = .ok (.iload_n 2, 1) := by decide +kernel
theorem d_prog_11_m_1_9 : decode prog_11_method_1_code 9 = .ok (.ifCond .lt 14, 3) := by decide +kernel
theorem d_prog_11_m_1_12 : decode prog_11_method_1_code 12 = .ok (.iload_n 3, 1) := by decide +kernel
theorem d_prog_11_m_1_13 : decode prog_11_method_1_code 13 = .ok (.iconst 1, 1) := by decide +kernel
theorem d_prog_11_m_1_14 : decode prog_11_method_1_code 14 = .ok (.if_icmp .lt 9, 3) := by decide +kernel
theorem d_prog_11_m_1_17 : decode prog_11_method_1_code 17 = .ok (.iload 4, 2) := by decide +kernel
theorem d_prog_11_m_1_19 : decode prog_11_method_1_code 19 = .ok (.iconst 1, 1) := by decide +kernel
theorem d_prog_11_m_1_20 : decode prog_11_method_1_code 20 = .ok (.if_icmp .ge 21, 3) := by decide +kernel
theorem d_prog_11_m_1_41 : decode prog_11_method_1_code 41 = .ok (.aload_n 0, 1) := by decide +kernel
theorem d_prog_11_m_1_42 : decode prog_11_method_1_code 42 = .ok (.iload_n 1, 1) := by decide +kernel
theorem d_prog_11_m_1_43 : decode prog_11_method_1_code 43 = .ok (.putfield 16, 3) := by decide +kernel
theorem d_prog_11_m_1_46 : decode prog_11_method_1_code 46 = .ok (.aload_n 0, 1) := by decide +kernel
theorem d_prog_11_m_1_47 : decode prog_11_method_1_code 47 = .ok (.iload_n 2, 1) := by decide +kernel
theorem d_prog_11_m_1_48 : decode prog_11_method_1_code 48 = .ok (.putfield 22, 3) := by decide +kernel
theorem d_prog_11_m_1_51 : decode prog_11_method_1_code 51 = .ok (.aload_n 0, 1) := by decide +kernel
theorem d_prog_11_m_1_52 : decode prog_11_method_1_code 52 = .ok (.iload_n 3, 1) := by decide +kernel
theorem d_prog_11_m_1_53 : decode prog_11_method_1_code 53 = .ok (.putfield 25, 3) := by decide +kernel
theorem d_prog_11_m_1_56 : decode prog_11_method_1_code 56 = .ok (.aload_n 0, 1) := by decide +kernel
theorem d_prog_11_m_1_57 : decode prog_11_method_1_code 57 = .ok (.iload 4, 2) := by decide +kernel
theorem d_prog_11_m_1_59 : decode prog_11_method_1_code 59 = .ok (.putfield 28, 3) := by decide +kernel
theorem d_prog_11_m_1_62 : decode prog_11_method_1_code 62 = .ok (.return_, 1) := by decide +kernel
theorem d_prog_3_m_5_0 : decode prog_3_method_5_code 0 = .ok (.aload_n 0, 1) := by decide +kernel
theorem d_prog_3_m_5_1 : decode prog_3_method_5_code 1 = .ok (.getfield 16, 3) := by decide +kernel
theorem d_prog_3_m_5_4 : decode prog_3_method_5_code 4 = .ok (.ireturn, 1) := by decide +kernel
theorem d_prog_3_m_6_0 : decode prog_3_method_6_code 0 = .ok (.aload_n 0, 1) := by decide +kernel
theorem d_prog_3_m_6_1 : decode prog_3_method_6_code 1 = .ok (.getfield 22, 3) := by decide +kernel
theorem d_prog_3_m_6_4 : decode prog_3_method_6_code 4 = .ok (.ireturn, 1) := by decide +kernel
theorem d_prog_11_m_6_0 : decode prog_11_method_6_code 0 = .ok (.aload_n 0, 1) := by decide +kernel
theorem d_prog_11_m_6_1 : decode prog_11_method_6_code 1 = .ok (.getfield 16, 3) := by decide +kernel
theorem d_prog_11_m_6_4 : decode prog_11_method_6_code 4 = .ok (.ireturn, 1) := by decide +kernel
theorem d_prog_11_m_7_0 : decode prog_11_method_7_code 0 = .ok (.aload_n 0, 1) := by decide +kernel
theorem d_prog_11_m_7_1 : decode prog_11_method_7_code 1 = .ok (.getfield 22, 3) := by decide +kernel
theorem d_prog_11_m_7_4 : decode prog_11_method_7_code 4 = .ok (.ireturn, 1) := by decide +kernel
theorem d_prog_11_m_8_0 : decode prog_11_method_8_code 0 = .ok (.aload_n 0, 1) := by decide +kernel
theorem d_prog_11_m_8_1 : decode prog_11_method_8_code 1 = .ok (.getfield 25, 3) := by decide +kernel
theorem d_prog_11_m_8_4 : decode prog_11_method_8_code 4 = .ok (.ireturn, 1) := by decide +kernel
theorem d_prog_11_m_9_0 : decode prog_11_method_9_code 0 = .ok (.aload_n 0, 1) := by decide +kernel
theorem d_prog_11_m_9_1 : decode prog_11_method_9_code 1 = .ok (.getfield 28, 3) := by decide +kernel
theorem d_prog_11_m_9_4 : decode prog_11_method_9_code 4 = .ok (.ireturn, 1) := by decide +kernel
theorem d_prog_11_m_2_0 : decode prog_11_method_2_code 0 = .ok (.new 31, 3) := by decide +kernel
theorem d_prog_11_m_2_3 : decode prog_11_method_2_code 3 = .ok (.dup, 1) := by decide +kernel
theorem d_prog_11_m_2_4 : decode prog_11_method_2_code 4 = .ok (.aload_n 0, 1) := by decide +kernel
theorem d_prog_11_m_2_5 : decode prog_11_method_2_code 5 = .ok (.getfield 25, 3) := by decide +kernel
theorem d_prog_11_m_2_8 : decode prog_11_method_2_code 8 = .ok (.aload_n 0, 1) := by decide +kernel
theorem d_prog_11_m_2_9 : decode prog_11_method_2_code 9 = .ok (.getfield 28, 3) := by decide +kernel
theorem d_prog_11_m_2_12 : decode prog_11_method_2_code 12 = .ok (.invokespecial 33, 3) := by decide +kernel
theorem d_prog_11_m_2_15 : decode prog_11_method_2_code 15 = .ok (.areturn, 1) := by decide +kernel
theorem pd_0 : parseMethodDescriptor "()V" = some ⟨[], none⟩ := by decide +kernel
theorem pd_1 : parseMethodDescriptor "(II)V" = some ⟨[.int, .int], none⟩ := by decide +kernel
theorem pd_2 : parseMethodDescriptor "(IIII)V" = some ⟨[.int, .int, .int, .int], none⟩ := by decide +kernel
theorem pd_3 : parseMethodDescriptor "()Lcom/example/cropmark/cropmark/iiif/Dimensions;" = some ⟨[], some (.object "com/example/cropmark/cropmark/iiif/Dimensions")⟩ := by decide +kernel
theorem pd_4 : parseMethodDescriptor "()I" = some ⟨[], some .int⟩ := by decide +kernel
theorem pn_0 : plainName "java/lang/Record" = true := by first | (simp [plainName, overriddenIn]; done) | decide +kernel
theorem pn_1 : plainName "com/example/cropmark/cropmark/iiif/Dimensions" = true := by first | (simp [plainName, overriddenIn]; done) | decide +kernel
theorem pn_2 : plainName "com/example/cropmark/cropmark/iiif/PixelRegion" = true := by first | (simp [plainName, overriddenIn]; done) | decide +kernel
theorem pn_3 : plainName "com/example/cropmark/cropmark/iiif/PixelRegionDimensionsPinLaw" = true := by first | (simp [plainName, overriddenIn]; done) | decide +kernel
theorem own_lt32 {x y : Int32} : x < y ↔ x.toInt < y.toInt := Int32.lt_iff_toInt_lt
theorem own_eq32 {x y : Int32} : x = y ↔ x.toInt = y.toInt := Int32.toInt_inj.symm
theorem own_i0 : (0 : Int32).toInt = 0 := rfl
theorem own_i1 : (1 : Int32).toInt = 1 := rfl
theorem own_nat {j z : Int32} (h0 : ¬ j < 0) (h : j < z) : j.toNatClampNeg < z.toNatClampNeg := by
  have a := nat_of h0
  have hz : ¬ z < 0 := by rw [own_lt32] at *; rw [own_i0] at *; omega
  have b := nat_of hz
  rw [own_lt32] at h; omega
theorem own_mx {x v : Int32} (h : (x &&& (2147483647 : Int32)) = v) : ¬ v < (0 : Int32) := by
  have e := c_mask x 2147483647 31 (by decide) (by decide)
  rw [h] at e; rw [own_lt32, own_i0]; omega
theorem own_mx1 {x v : Int32} (h : (x &&& (2147483647 : Int32)) = v) (h0 : ¬ v = 0) : ¬ v < (1 : Int32) := by
  have e := c_mask x 2147483647 31 (by decide) (by decide)
  rw [h] at e; rw [own_eq32, own_i0] at h0; rw [own_lt32, own_i1]; omega
theorem own_rem3 {x v : Int32} (h0 : ¬ x < (0 : Int32)) (h : (x % (3 : Int32)) = v) : v = (0 : Int32) ∨ v = (1 : Int32) ∨ v = (2 : Int32) := by
  have e := (c_irem x 3 3 rfl).1 (by rw [own_lt32, own_i0] at h0; omega)
  rw [h] at e
  have : v.toInt = 0 ∨ v.toInt = 1 ∨ v.toInt = 2 := by omega
  rcases this with q | q | q
  · left; exact Int32.toInt_inj.mp q
  · right; left; exact Int32.toInt_inj.mp q
  · right; right; exact Int32.toInt_inj.mp q
theorem own_ushr0 (x q : Int32) (k : Nat) (hk : q.toBitVec.toNat % 32 = k) (hk0 : 0 < k) : ¬ ((x.toUInt32 >>> (q &&& 31).toUInt32).toInt32) < (0 : Int32) := by
  have e := c_iushr x q k hk hk0
  rw [own_lt32, e, own_i0]
  have : 0 ≤ (x.toInt % 4294967296) / ((2 ^ k : Nat) : Int) := Int.ediv_nonneg (Int.emod_nonneg _ (by decide)) (Int.natCast_nonneg _)
  omega

def Q_rec (Z : State) (a : Addr) (h0 : Heap) (n0 : Nat) (v : Option Value) (h : Heap) (L : List Loc) : Prop := v = none ∧ Fr n0 L ∧ h = h0
theorem ef_rec (m : MethodId) (x0 : Addr) : entryFrame m #[(.ref x0)] 1 = mkF m 0 #[.val (.ref x0)] [] := by first | (simp [entryFrame, mkF, argsToLocals, Value.category]; done) | rfl
set_option maxRecDepth 65536 in
set_option maxHeartbeats 40000000 in
theorem rm_rec (l : Launch) (Z : State) (a0 : Array Value) (hw : ∀ d ∈ tables_1, d.before a0 Z = true) (a : Addr) (h0 : Heap) (n0 : Nat) (Z0 : n0 ≤ h0.size) :
    Ct l Z (⟨"java/lang/Record", "<init>", "()V"⟩ : MethodName) jdk_30_method_1_code 1 none [] ({ frames := 1, cells := 0, slots := 0, locals := 12 } : Room) #[(.ref a)] h0 (Q_rec Z a h0 n0) := by
  refine own_body (plainFor_of_name pn_0) (fun m => ef_rec m a) ?_
  intro p e s m below meth c T0 hx hby hml hZ hown hnm hret hlk X0 e0
  have N0 := Fr.nil n0
  refine g_aloadN X0 hx (hb hby d_jdk_30_m_1_0) rfl rfl rfl ?_
  refine g_initO X0 hx hZ hown (hw _ (List.mem_of_getElem? (i := 12) rfl)) (hw _ (List.mem_of_getElem? (i := 13) rfl)) (hw _ (List.mem_of_getElem? (i := 14) rfl)) e0 (by rw [hml]; rfl) (hb hby d_jdk_30_m_1_1) rfl (by decide) (W := 0) (Nat.le_of_eq rfl) (by decide) fun T1 X1 e1 => ?_
  exact g_ret X1 hx hret hlk (hb hby d_jdk_30_m_1_4) (by decide) (by decide) (by rw [e1]; exact ⟨rfl, N0, rfl⟩)
def Q_dini (Z : State) (a : Addr) (w : Int32) (ht : Int32) (h0 : Heap) (n0 : Nat) (v : Option Value) (h : Heap) (L : List Loc) : Prop := v = none ∧ Fr n0 L ∧ Keep h0 h [a] ∧ Exa Z h a "com/example/cropmark/cropmark/iiif/Dimensions" ∧ Fld Z h a "com/example/cropmark/cropmark/iiif/Dimensions" "width" "I" (.int w) ∧ Fld Z h a "com/example/cropmark/cropmark/iiif/Dimensions" "height" "I" (.int ht)
theorem ef_dini (m : MethodId) (x0 : Addr) (x1 : Int32) (x2 : Int32) : entryFrame m #[(.ref x0), (.int x1), (.int x2)] 3 = mkF m 0 #[.val (.ref x0), .val (.int x1), .val (.int x2)] [] := by first | (simp [entryFrame, mkF, argsToLocals, Value.category]; done) | rfl
set_option maxRecDepth 65536 in
set_option maxHeartbeats 40000000 in
theorem rm_dini (l : Launch) (Z : State) (a0 : Array Value) (hw : ∀ d ∈ tables_1, d.before a0 Z = true) (a : Addr) (w : Int32) (ht : Int32) (h0 : Heap) (n0 : Nat) (Z0 : n0 ≤ h0.size) (F_width_a : Fld Z h0 a "com/example/cropmark/cropmark/iiif/Dimensions" "width" "I" (.int (0 : Int32))) (F_height_a : Fld Z h0 a "com/example/cropmark/cropmark/iiif/Dimensions" "height" "I" (.int (0 : Int32))) (E_a : Exa Z h0 a "com/example/cropmark/cropmark/iiif/Dimensions") (g_a : n0 ≤ a) (hw1 : ¬ w < (1 : Int32)) (hh1 : ¬ ht < (1 : Int32)) :
    Ct l Z (⟨"com/example/cropmark/cropmark/iiif/Dimensions", "<init>", "(II)V"⟩ : MethodName) prog_3_method_1_code 3 none [] ({ frames := 2, cells := 0, slots := 0, locals := 24 } : Room) #[(.ref a), (.int w), (.int ht)] h0 (Q_dini Z a w ht h0 n0) := by
  refine own_body (plainFor_of_name pn_1) (fun m => ef_dini m a w ht) ?_
  intro p e s m below meth c T0 hx hby hml hZ hown hnm hret hlk X0 e0
  have N0 := Fr.nil n0
  refine g_aloadN X0 hx (hb hby d_prog_3_m_1_0) rfl rfl rfl ?_
  refine g_special X0 hx hZ hown rfl (hw _ (List.mem_of_getElem? (i := 34) rfl)) (hw _ (List.mem_of_getElem? (i := 8) rfl)) (hw _ (List.mem_of_getElem? (i := 10) rfl)) (hw _ (List.mem_of_getElem? (i := 11) rfl)) (by decide) (a := a) (rm_rec l Z a0 hw a h0 n0 Z0) (by rw [hml]; rfl) e0 [] rfl rfl (W := 0) (Nat.le_of_eq rfl) (by decide) (by decide) (by decide) (by decide) (lenOf pd_0 rfl) (hb hby d_prog_3_m_1_1) rfl fun v1 T1 L1 X1 hQ1 => ?_
  obtain ⟨rfl, Nq1, eh1⟩ := hQ1
  have N1 := Fr.app N0 Nq1
  show Ga _ _ _ _ _ _ _ _ _ _ _ []
  refine g_iloadN X1 hx (hb hby d_prog_3_m_1_4) rfl rfl ?_
  refine g_iconst X1 hx (r := (1 : Int32)) (hb hby d_prog_3_m_1_5) rfl rfl ?_
  have hc6 : ¬ w < (1 : Int32) := hw1
  refine g_icmpN X1 hx (hb hby d_prog_3_m_1_6) rfl (XT.ii_lt_f hc6) ?_
  refine g_iloadN X1 hx (hb hby d_prog_3_m_1_9) rfl rfl ?_
  refine g_iconst X1 hx (r := (1 : Int32)) (hb hby d_prog_3_m_1_10) rfl rfl ?_
  have hc11 : ¬ ht < (1 : Int32) := hh1
  refine g_icmpY X1 hx (q := 29) (hb hby d_prog_3_m_1_11) (XT.ii_ge_t hc11) (by decide) (by decide) ?_
  refine g_aloadN X1 hx (hb hby d_prog_3_m_1_29) rfl rfl rfl ?_
  refine g_iloadN X1 hx (hb hby d_prog_3_m_1_30) rfl rfl ?_
  refine g_putF X1 hx hZ hown (host := "") (Or.inl (hw _ (List.mem_of_getElem? (i := 35) rfl))) Via.refl eh1 F_width_a E_a (Or.inr ⟨(hw _ (List.mem_of_getElem? (i := 36) rfl)), rfl, hnm⟩) (hw _ (List.mem_of_getElem? (i := 29) rfl)) (ty := .int) (by decide) rfl rfl (hb hby d_prog_3_m_1_31) rfl fun T2 h2 X2 e2 W2 F2 => ?_
  have kk2 : Keep h0 h2 [a] := (Keep.refl h0 [a]).wr W2 (Or.inl (by simp))
  have N2 := Fr.snoc X2 N1 g_a
  have Z2 : n0 ≤ h2.size := by rw [W2.size]; exact Z0
  refine g_aloadN X2 hx (hb hby d_prog_3_m_1_34) rfl rfl rfl ?_
  refine g_iloadN X2 hx (hb hby d_prog_3_m_1_35) rfl rfl ?_
  have f4 : Fld Z h2 a "com/example/cropmark/cropmark/iiif/Dimensions" "height" "I" (.int (0 : Int32)) := (F_height_a.other W2 (Or.inr (slot_ne (Or.inr (hw _ (List.mem_of_getElem? (i := 38) rfl))) (Or.inr (hw _ (List.mem_of_getElem? (i := 36) rfl))) (by decide) (t := .int) (t' := .int) (by decide) (by decide))))
  have f5 : Exa Z h2 a "com/example/cropmark/cropmark/iiif/Dimensions" := (E_a.wr W2)
  refine g_putF X2 hx hZ hown (host := "") (Or.inl (hw _ (List.mem_of_getElem? (i := 37) rfl))) Via.refl e2 f4 f5 (Or.inr ⟨(hw _ (List.mem_of_getElem? (i := 38) rfl)), rfl, hnm⟩) (hw _ (List.mem_of_getElem? (i := 29) rfl)) (ty := .int) (by decide) rfl rfl (hb hby d_prog_3_m_1_36) rfl fun T3 h3 X3 e3 W3 F3 => ?_
  have kk3 : Keep h0 h3 [a] := kk2.wr W3 (Or.inl (by simp))
  have N3 := Fr.snoc X3 N2 g_a
  have Z3 : n0 ≤ h3.size := by rw [W3.size]; exact Z2
  have f6 : Exa Z h3 a "com/example/cropmark/cropmark/iiif/Dimensions" := (f5.wr W3)
  have f7 : Fld Z h3 a "com/example/cropmark/cropmark/iiif/Dimensions" "width" "I" (.int w) := (F2.other W3 (Or.inr (slot_ne (Or.inr (hw _ (List.mem_of_getElem? (i := 36) rfl))) (Or.inr (hw _ (List.mem_of_getElem? (i := 38) rfl))) (by decide) (t := .int) (t' := .int) (by decide) (by decide))))
  exact g_ret X3 hx hret hlk (hb hby d_prog_3_m_1_39) (by decide) (by decide) (by rw [e3]; exact ⟨rfl, N3, kk3, f6, f7, F3⟩)
def Q_pini (Z : State) (a : Addr) (x : Int32) (y : Int32) (w : Int32) (ht : Int32) (h0 : Heap) (n0 : Nat) (v : Option Value) (h : Heap) (L : List Loc) : Prop := v = none ∧ Fr n0 L ∧ Keep h0 h [a] ∧ Exa Z h a "com/example/cropmark/cropmark/iiif/PixelRegion" ∧ Fld Z h a "com/example/cropmark/cropmark/iiif/PixelRegion" "x" "I" (.int x) ∧ Fld Z h a "com/example/cropmark/cropmark/iiif/PixelRegion" "y" "I" (.int y) ∧ Fld Z h a "com/example/cropmark/cropmark/iiif/PixelRegion" "width" "I" (.int w) ∧ Fld Z h a "com/example/cropmark/cropmark/iiif/PixelRegion" "height" "I" (.int ht)
theorem ef_pini (m : MethodId) (x0 : Addr) (x1 : Int32) (x2 : Int32) (x3 : Int32) (x4 : Int32) : entryFrame m #[(.ref x0), (.int x1), (.int x2), (.int x3), (.int x4)] 5 = mkF m 0 #[.val (.ref x0), .val (.int x1), .val (.int x2), .val (.int x3), .val (.int x4)] [] := by first | (simp [entryFrame, mkF, argsToLocals, Value.category]; done) | rfl
set_option maxRecDepth 65536 in
set_option maxHeartbeats 40000000 in
theorem rm_pini (l : Launch) (Z : State) (a0 : Array Value) (hw : ∀ d ∈ tables_1, d.before a0 Z = true) (a : Addr) (x : Int32) (y : Int32) (w : Int32) (ht : Int32) (h0 : Heap) (n0 : Nat) (Z0 : n0 ≤ h0.size) (F_x_a : Fld Z h0 a "com/example/cropmark/cropmark/iiif/PixelRegion" "x" "I" (.int (0 : Int32))) (F_y_a : Fld Z h0 a "com/example/cropmark/cropmark/iiif/PixelRegion" "y" "I" (.int (0 : Int32))) (F_width_a : Fld Z h0 a "com/example/cropmark/cropmark/iiif/PixelRegion" "width" "I" (.int (0 : Int32))) (F_height_a : Fld Z h0 a "com/example/cropmark/cropmark/iiif/PixelRegion" "height" "I" (.int (0 : Int32))) (E_a : Exa Z h0 a "com/example/cropmark/cropmark/iiif/PixelRegion") (g_a : n0 ≤ a) (hx0 : ¬ x < (0 : Int32)) (hy0 : ¬ y < (0 : Int32)) (hw1 : ¬ w < (1 : Int32)) (hh1 : ¬ ht < (1 : Int32)) :
    Ct l Z (⟨"com/example/cropmark/cropmark/iiif/PixelRegion", "<init>", "(IIII)V"⟩ : MethodName) prog_11_method_1_code 5 none [] ({ frames := 2, cells := 0, slots := 0, locals := 24 } : Room) #[(.ref a), (.int x), (.int y), (.int w), (.int ht)] h0 (Q_pini Z a x y w ht h0 n0) := by
  refine own_body (plainFor_of_name pn_2) (fun m => ef_pini m a x y w ht) ?_
  intro p e s m below meth c T0 hx hby hml hZ hown hnm hret hlk X0 e0
  have N0 := Fr.nil n0
  refine g_aloadN X0 hx (hb hby d_prog_11_m_1_0) rfl rfl rfl ?_
  refine g_special X0 hx hZ hown rfl (hw _ (List.mem_of_getElem? (i := 7) rfl)) (hw _ (List.mem_of_getElem? (i := 8) rfl)) (hw _ (List.mem_of_getElem? (i := 10) rfl)) (hw _ (List.mem_of_getElem? (i := 11) rfl)) (by decide) (a := a) (rm_rec l Z a0 hw a h0 n0 Z0) (by rw [hml]; rfl) e0 [] rfl rfl (W := 0) (Nat.le_of_eq rfl) (by decide) (by decide) (by decide) (by decide) (lenOf pd_0 rfl) (hb hby d_prog_11_m_1_1) rfl fun v1 T1 L1 X1 hQ1 => ?_
  obtain ⟨rfl, Nq1, eh1⟩ := hQ1
  have N1 := Fr.app N0 Nq1
  show Ga _ _ _ _ _ _ _ _ _ _ _ []
  refine g_iloadN X1 hx (hb hby d_prog_11_m_1_4) rfl rfl ?_
  have hc5 : ¬ x < (0 : Int32) := hx0
  refine g_ifN X1 hx (hb hby d_prog_11_m_1_5) rfl (XT.i0_lt_f hc5) ?_
  refine g_iloadN X1 hx (hb hby d_prog_11_m_1_8) rfl rfl ?_
  have hc9 : ¬ y < (0 : Int32) := hy0
  refine g_ifN X1 hx (hb hby d_prog_11_m_1_9) rfl (XT.i0_lt_f hc9) ?_
  refine g_iloadN X1 hx (hb hby d_prog_11_m_1_12) rfl rfl ?_
  refine g_iconst X1 hx (r := (1 : Int32)) (hb hby d_prog_11_m_1_13) rfl rfl ?_
  have hc14 : ¬ w < (1 : Int32) := hw1
  refine g_icmpN X1 hx (hb hby d_prog_11_m_1_14) rfl (XT.ii_lt_f hc14) ?_
  refine g_iload X1 hx (hb hby d_prog_11_m_1_17) rfl rfl ?_
  refine g_iconst X1 hx (r := (1 : Int32)) (hb hby d_prog_11_m_1_19) rfl rfl ?_
  have hc20 : ¬ ht < (1 : Int32) := hh1
  refine g_icmpY X1 hx (q := 41) (hb hby d_prog_11_m_1_20) (XT.ii_ge_t hc20) (by decide) (by decide) ?_
  refine g_aloadN X1 hx (hb hby d_prog_11_m_1_41) rfl rfl rfl ?_
  refine g_iloadN X1 hx (hb hby d_prog_11_m_1_42) rfl rfl ?_
  refine g_putF X1 hx hZ hown (host := "") (Or.inl (hw _ (List.mem_of_getElem? (i := 15) rfl))) Via.refl eh1 F_x_a E_a (Or.inr ⟨(hw _ (List.mem_of_getElem? (i := 16) rfl)), rfl, hnm⟩) (hw _ (List.mem_of_getElem? (i := 2) rfl)) (ty := .int) (by decide) rfl rfl (hb hby d_prog_11_m_1_43) rfl fun T2 h2 X2 e2 W2 F2 => ?_
  have kk2 : Keep h0 h2 [a] := (Keep.refl h0 [a]).wr W2 (Or.inl (by simp))
  have N2 := Fr.snoc X2 N1 g_a
  have Z2 : n0 ≤ h2.size := by rw [W2.size]; exact Z0
  refine g_aloadN X2 hx (hb hby d_prog_11_m_1_46) rfl rfl rfl ?_
  refine g_iloadN X2 hx (hb hby d_prog_11_m_1_47) rfl rfl ?_
  have f4 : Fld Z h2 a "com/example/cropmark/cropmark/iiif/PixelRegion" "y" "I" (.int (0 : Int32)) := (F_y_a.other W2 (Or.inr (slot_ne (Or.inr (hw _ (List.mem_of_getElem? (i := 18) rfl))) (Or.inr (hw _ (List.mem_of_getElem? (i := 16) rfl))) (by decide) (t := .int) (t' := .int) (by decide) (by decide))))
  have f5 : Exa Z h2 a "com/example/cropmark/cropmark/iiif/PixelRegion" := (E_a.wr W2)
  refine g_putF X2 hx hZ hown (host := "") (Or.inl (hw _ (List.mem_of_getElem? (i := 17) rfl))) Via.refl e2 f4 f5 (Or.inr ⟨(hw _ (List.mem_of_getElem? (i := 18) rfl)), rfl, hnm⟩) (hw _ (List.mem_of_getElem? (i := 2) rfl)) (ty := .int) (by decide) rfl rfl (hb hby d_prog_11_m_1_48) rfl fun T3 h3 X3 e3 W3 F3 => ?_
  have kk3 : Keep h0 h3 [a] := kk2.wr W3 (Or.inl (by simp))
  have N3 := Fr.snoc X3 N2 g_a
  have Z3 : n0 ≤ h3.size := by rw [W3.size]; exact Z2
  refine g_aloadN X3 hx (hb hby d_prog_11_m_1_51) rfl rfl rfl ?_
  refine g_iloadN X3 hx (hb hby d_prog_11_m_1_52) rfl rfl ?_
  have f7 : Fld Z h3 a "com/example/cropmark/cropmark/iiif/PixelRegion" "width" "I" (.int (0 : Int32)) := ((F_width_a.other W2 (Or.inr (slot_ne (Or.inr (hw _ (List.mem_of_getElem? (i := 20) rfl))) (Or.inr (hw _ (List.mem_of_getElem? (i := 16) rfl))) (by decide) (t := .int) (t' := .int) (by decide) (by decide)))).other W3 (Or.inr (slot_ne (Or.inr (hw _ (List.mem_of_getElem? (i := 20) rfl))) (Or.inr (hw _ (List.mem_of_getElem? (i := 18) rfl))) (by decide) (t := .int) (t' := .int) (by decide) (by decide))))
  have f8 : Exa Z h3 a "com/example/cropmark/cropmark/iiif/PixelRegion" := (f5.wr W3)
  refine g_putF X3 hx hZ hown (host := "") (Or.inl (hw _ (List.mem_of_getElem? (i := 19) rfl))) Via.refl e3 f7 f8 (Or.inr ⟨(hw _ (List.mem_of_getElem? (i := 20) rfl)), rfl, hnm⟩) (hw _ (List.mem_of_getElem? (i := 2) rfl)) (ty := .int) (by decide) rfl rfl (hb hby d_prog_11_m_1_53) rfl fun T6 h6 X6 e6 W6 F6 => ?_
  have kk6 : Keep h0 h6 [a] := kk3.wr W6 (Or.inl (by simp))
  have N6 := Fr.snoc X6 N3 g_a
  have Z6 : n0 ≤ h6.size := by rw [W6.size]; exact Z3
  refine g_aloadN X6 hx (hb hby d_prog_11_m_1_56) rfl rfl rfl ?_
  refine g_iload X6 hx (hb hby d_prog_11_m_1_57) rfl rfl ?_
  have f10 : Fld Z h6 a "com/example/cropmark/cropmark/iiif/PixelRegion" "height" "I" (.int (0 : Int32)) := (((F_height_a.other W2 (Or.inr (slot_ne (Or.inr (hw _ (List.mem_of_getElem? (i := 22) rfl))) (Or.inr (hw _ (List.mem_of_getElem? (i := 16) rfl))) (by decide) (t := .int) (t' := .int) (by decide) (by decide)))).other W3 (Or.inr (slot_ne (Or.inr (hw _ (List.mem_of_getElem? (i := 22) rfl))) (Or.inr (hw _ (List.mem_of_getElem? (i := 18) rfl))) (by decide) (t := .int) (t' := .int) (by decide) (by decide)))).other W6 (Or.inr (slot_ne (Or.inr (hw _ (List.mem_of_getElem? (i := 22) rfl))) (Or.inr (hw _ (List.mem_of_getElem? (i := 20) rfl))) (by decide) (t := .int) (t' := .int) (by decide) (by decide))))
  have f11 : Exa Z h6 a "com/example/cropmark/cropmark/iiif/PixelRegion" := (f8.wr W6)
  refine g_putF X6 hx hZ hown (host := "") (Or.inl (hw _ (List.mem_of_getElem? (i := 21) rfl))) Via.refl e6 f10 f11 (Or.inr ⟨(hw _ (List.mem_of_getElem? (i := 22) rfl)), rfl, hnm⟩) (hw _ (List.mem_of_getElem? (i := 2) rfl)) (ty := .int) (by decide) rfl rfl (hb hby d_prog_11_m_1_59) rfl fun T9 h9 X9 e9 W9 F9 => ?_
  have kk9 : Keep h0 h9 [a] := kk6.wr W9 (Or.inl (by simp))
  have N9 := Fr.snoc X9 N6 g_a
  have Z9 : n0 ≤ h9.size := by rw [W9.size]; exact Z6
  have f12 : Exa Z h9 a "com/example/cropmark/cropmark/iiif/PixelRegion" := (f11.wr W9)
  have f13 : Fld Z h9 a "com/example/cropmark/cropmark/iiif/PixelRegion" "x" "I" (.int x) := (((F2.other W3 (Or.inr (slot_ne (Or.inr (hw _ (List.mem_of_getElem? (i := 16) rfl))) (Or.inr (hw _ (List.mem_of_getElem? (i := 18) rfl))) (by decide) (t := .int) (t' := .int) (by decide) (by decide)))).other W6 (Or.inr (slot_ne (Or.inr (hw _ (List.mem_of_getElem? (i := 16) rfl))) (Or.inr (hw _ (List.mem_of_getElem? (i := 20) rfl))) (by decide) (t := .int) (t' := .int) (by decide) (by decide)))).other W9 (Or.inr (slot_ne (Or.inr (hw _ (List.mem_of_getElem? (i := 16) rfl))) (Or.inr (hw _ (List.mem_of_getElem? (i := 22) rfl))) (by decide) (t := .int) (t' := .int) (by decide) (by decide))))
  have f14 : Fld Z h9 a "com/example/cropmark/cropmark/iiif/PixelRegion" "y" "I" (.int y) := ((F3.other W6 (Or.inr (slot_ne (Or.inr (hw _ (List.mem_of_getElem? (i := 18) rfl))) (Or.inr (hw _ (List.mem_of_getElem? (i := 20) rfl))) (by decide) (t := .int) (t' := .int) (by decide) (by decide)))).other W9 (Or.inr (slot_ne (Or.inr (hw _ (List.mem_of_getElem? (i := 18) rfl))) (Or.inr (hw _ (List.mem_of_getElem? (i := 22) rfl))) (by decide) (t := .int) (t' := .int) (by decide) (by decide))))
  have f15 : Fld Z h9 a "com/example/cropmark/cropmark/iiif/PixelRegion" "width" "I" (.int w) := (F6.other W9 (Or.inr (slot_ne (Or.inr (hw _ (List.mem_of_getElem? (i := 20) rfl))) (Or.inr (hw _ (List.mem_of_getElem? (i := 22) rfl))) (by decide) (t := .int) (t' := .int) (by decide) (by decide))))
  exact g_ret X9 hx hret hlk (hb hby d_prog_11_m_1_62) (by decide) (by decide) (by rw [e9]; exact ⟨rfl, N9, kk9, f12, f13, f14, f15, F9⟩)
def Q_dwidth (Z : State) (a : Addr) (x : Int32) (h0 : Heap) (n0 : Nat) (v : Option Value) (h : Heap) (L : List Loc) : Prop := v = some (.int x) ∧ Fr n0 L ∧ h = h0
theorem ef_dwidth (m : MethodId) (x0 : Addr) : entryFrame m #[(.ref x0)] 1 = mkF m 0 #[.val (.ref x0)] [] := by first | (simp [entryFrame, mkF, argsToLocals, Value.category]; done) | rfl
set_option maxRecDepth 65536 in
set_option maxHeartbeats 40000000 in
theorem rm_dwidth (l : Launch) (Z : State) (a0 : Array Value) (hw : ∀ d ∈ tables_1, d.before a0 Z = true) (a : Addr) (x : Int32) (h0 : Heap) (n0 : Nat) (Z0 : n0 ≤ h0.size) (F_width_a : Fld Z h0 a "com/example/cropmark/cropmark/iiif/Dimensions" "width" "I" (.int x)) :
    Ct l Z (⟨"com/example/cropmark/cropmark/iiif/Dimensions", "width", "()I"⟩ : MethodName) prog_3_method_5_code 1 (some .int) [] ({ frames := 0, cells := 0, slots := 0, locals := 0 } : Room) #[(.ref a)] h0 (Q_dwidth Z a x h0 n0) := by
  refine own_body (plainFor_of_name pn_1) (fun m => ef_dwidth m a) ?_
  intro p e s m below meth c T0 hx hby hml hZ hown hnm hret hlk X0 e0
  have N0 := Fr.nil n0
  refine g_aloadN X0 hx (hb hby d_prog_3_m_5_0) rfl rfl rfl ?_
  refine g_getF X0 hx hZ hown (host := "") (Or.inl (hw _ (List.mem_of_getElem? (i := 35) rfl))) Via.refl e0 F_width_a (hb hby d_prog_3_m_5_1) rfl fun T1 X1 e1 => ?_
  exact g_retI X1 hx hret hlk (hb hby d_prog_3_m_5_4) (by decide) (by decide) (by rw [e1]; exact ⟨rfl, N0, rfl⟩)
def Q_dheight (Z : State) (a : Addr) (x : Int32) (h0 : Heap) (n0 : Nat) (v : Option Value) (h : Heap) (L : List Loc) : Prop := v = some (.int x) ∧ Fr n0 L ∧ h = h0
theorem ef_dheight (m : MethodId) (x0 : Addr) : entryFrame m #[(.ref x0)] 1 = mkF m 0 #[.val (.ref x0)] [] := by first | (simp [entryFrame, mkF, argsToLocals, Value.category]; done) | rfl
set_option maxRecDepth 65536 in
set_option maxHeartbeats 40000000 in
theorem rm_dheight (l : Launch) (Z : State) (a0 : Array Value) (hw : ∀ d ∈ tables_1, d.before a0 Z = true) (a : Addr) (x : Int32) (h0 : Heap) (n0 : Nat) (Z0 : n0 ≤ h0.size) (F_height_a : Fld Z h0 a "com/example/cropmark/cropmark/iiif/Dimensions" "height" "I" (.int x)) :
    Ct l Z (⟨"com/example/cropmark/cropmark/iiif/Dimensions", "height", "()I"⟩ : MethodName) prog_3_method_6_code 1 (some .int) [] ({ frames := 0, cells := 0, slots := 0, locals := 0 } : Room) #[(.ref a)] h0 (Q_dheight Z a x h0 n0) := by
  refine own_body (plainFor_of_name pn_1) (fun m => ef_dheight m a) ?_
  intro p e s m below meth c T0 hx hby hml hZ hown hnm hret hlk X0 e0
  have N0 := Fr.nil n0
  refine g_aloadN X0 hx (hb hby d_prog_3_m_6_0) rfl rfl rfl ?_
  refine g_getF X0 hx hZ hown (host := "") (Or.inl (hw _ (List.mem_of_getElem? (i := 37) rfl))) Via.refl e0 F_height_a (hb hby d_prog_3_m_6_1) rfl fun T1 X1 e1 => ?_
  exact g_retI X1 hx hret hlk (hb hby d_prog_3_m_6_4) (by decide) (by decide) (by rw [e1]; exact ⟨rfl, N0, rfl⟩)
def Q_px (Z : State) (a : Addr) (x : Int32) (h0 : Heap) (n0 : Nat) (v : Option Value) (h : Heap) (L : List Loc) : Prop := v = some (.int x) ∧ Fr n0 L ∧ h = h0
theorem ef_px (m : MethodId) (x0 : Addr) : entryFrame m #[(.ref x0)] 1 = mkF m 0 #[.val (.ref x0)] [] := by first | (simp [entryFrame, mkF, argsToLocals, Value.category]; done) | rfl
set_option maxRecDepth 65536 in
set_option maxHeartbeats 40000000 in
theorem rm_px (l : Launch) (Z : State) (a0 : Array Value) (hw : ∀ d ∈ tables_1, d.before a0 Z = true) (a : Addr) (x : Int32) (h0 : Heap) (n0 : Nat) (Z0 : n0 ≤ h0.size) (F_x_a : Fld Z h0 a "com/example/cropmark/cropmark/iiif/PixelRegion" "x" "I" (.int x)) :
    Ct l Z (⟨"com/example/cropmark/cropmark/iiif/PixelRegion", "x", "()I"⟩ : MethodName) prog_11_method_6_code 1 (some .int) [] ({ frames := 0, cells := 0, slots := 0, locals := 0 } : Room) #[(.ref a)] h0 (Q_px Z a x h0 n0) := by
  refine own_body (plainFor_of_name pn_2) (fun m => ef_px m a) ?_
  intro p e s m below meth c T0 hx hby hml hZ hown hnm hret hlk X0 e0
  have N0 := Fr.nil n0
  refine g_aloadN X0 hx (hb hby d_prog_11_m_6_0) rfl rfl rfl ?_
  refine g_getF X0 hx hZ hown (host := "") (Or.inl (hw _ (List.mem_of_getElem? (i := 15) rfl))) Via.refl e0 F_x_a (hb hby d_prog_11_m_6_1) rfl fun T1 X1 e1 => ?_
  exact g_retI X1 hx hret hlk (hb hby d_prog_11_m_6_4) (by decide) (by decide) (by rw [e1]; exact ⟨rfl, N0, rfl⟩)
def Q_py (Z : State) (a : Addr) (x : Int32) (h0 : Heap) (n0 : Nat) (v : Option Value) (h : Heap) (L : List Loc) : Prop := v = some (.int x) ∧ Fr n0 L ∧ h = h0
theorem ef_py (m : MethodId) (x0 : Addr) : entryFrame m #[(.ref x0)] 1 = mkF m 0 #[.val (.ref x0)] [] := by first | (simp [entryFrame, mkF, argsToLocals, Value.category]; done) | rfl
set_option maxRecDepth 65536 in
set_option maxHeartbeats 40000000 in
theorem rm_py (l : Launch) (Z : State) (a0 : Array Value) (hw : ∀ d ∈ tables_1, d.before a0 Z = true) (a : Addr) (x : Int32) (h0 : Heap) (n0 : Nat) (Z0 : n0 ≤ h0.size) (F_y_a : Fld Z h0 a "com/example/cropmark/cropmark/iiif/PixelRegion" "y" "I" (.int x)) :
    Ct l Z (⟨"com/example/cropmark/cropmark/iiif/PixelRegion", "y", "()I"⟩ : MethodName) prog_11_method_7_code 1 (some .int) [] ({ frames := 0, cells := 0, slots := 0, locals := 0 } : Room) #[(.ref a)] h0 (Q_py Z a x h0 n0) := by
  refine own_body (plainFor_of_name pn_2) (fun m => ef_py m a) ?_
  intro p e s m below meth c T0 hx hby hml hZ hown hnm hret hlk X0 e0
  have N0 := Fr.nil n0
  refine g_aloadN X0 hx (hb hby d_prog_11_m_7_0) rfl rfl rfl ?_
  refine g_getF X0 hx hZ hown (host := "") (Or.inl (hw _ (List.mem_of_getElem? (i := 17) rfl))) Via.refl e0 F_y_a (hb hby d_prog_11_m_7_1) rfl fun T1 X1 e1 => ?_
  exact g_retI X1 hx hret hlk (hb hby d_prog_11_m_7_4) (by decide) (by decide) (by rw [e1]; exact ⟨rfl, N0, rfl⟩)
def Q_pwidth (Z : State) (a : Addr) (x : Int32) (h0 : Heap) (n0 : Nat) (v : Option Value) (h : Heap) (L : List Loc) : Prop := v = some (.int x) ∧ Fr n0 L ∧ h = h0
theorem ef_pwidth (m : MethodId) (x0 : Addr) : entryFrame m #[(.ref x0)] 1 = mkF m 0 #[.val (.ref x0)] [] := by first | (simp [entryFrame, mkF, argsToLocals, Value.category]; done) | rfl
set_option maxRecDepth 65536 in
set_option maxHeartbeats 40000000 in
theorem rm_pwidth (l : Launch) (Z : State) (a0 : Array Value) (hw : ∀ d ∈ tables_1, d.before a0 Z = true) (a : Addr) (x : Int32) (h0 : Heap) (n0 : Nat) (Z0 : n0 ≤ h0.size) (F_width_a : Fld Z h0 a "com/example/cropmark/cropmark/iiif/PixelRegion" "width" "I" (.int x)) :
    Ct l Z (⟨"com/example/cropmark/cropmark/iiif/PixelRegion", "width", "()I"⟩ : MethodName) prog_11_method_8_code 1 (some .int) [] ({ frames := 0, cells := 0, slots := 0, locals := 0 } : Room) #[(.ref a)] h0 (Q_pwidth Z a x h0 n0) := by
  refine own_body (plainFor_of_name pn_2) (fun m => ef_pwidth m a) ?_
  intro p e s m below meth c T0 hx hby hml hZ hown hnm hret hlk X0 e0
  have N0 := Fr.nil n0
  refine g_aloadN X0 hx (hb hby d_prog_11_m_8_0) rfl rfl rfl ?_
  refine g_getF X0 hx hZ hown (host := "") (Or.inl (hw _ (List.mem_of_getElem? (i := 19) rfl))) Via.refl e0 F_width_a (hb hby d_prog_11_m_8_1) rfl fun T1 X1 e1 => ?_
  exact g_retI X1 hx hret hlk (hb hby d_prog_11_m_8_4) (by decide) (by decide) (by rw [e1]; exact ⟨rfl, N0, rfl⟩)
def Q_pheight (Z : State) (a : Addr) (x : Int32) (h0 : Heap) (n0 : Nat) (v : Option Value) (h : Heap) (L : List Loc) : Prop := v = some (.int x) ∧ Fr n0 L ∧ h = h0
theorem ef_pheight (m : MethodId) (x0 : Addr) : entryFrame m #[(.ref x0)] 1 = mkF m 0 #[.val (.ref x0)] [] := by first | (simp [entryFrame, mkF, argsToLocals, Value.category]; done) | rfl
set_option maxRecDepth 65536 in
set_option maxHeartbeats 40000000 in
theorem rm_pheight (l : Launch) (Z : State) (a0 : Array Value) (hw : ∀ d ∈ tables_1, d.before a0 Z = true) (a : Addr) (x : Int32) (h0 : Heap) (n0 : Nat) (Z0 : n0 ≤ h0.size) (F_height_a : Fld Z h0 a "com/example/cropmark/cropmark/iiif/PixelRegion" "height" "I" (.int x)) :
    Ct l Z (⟨"com/example/cropmark/cropmark/iiif/PixelRegion", "height", "()I"⟩ : MethodName) prog_11_method_9_code 1 (some .int) [] ({ frames := 0, cells := 0, slots := 0, locals := 0 } : Room) #[(.ref a)] h0 (Q_pheight Z a x h0 n0) := by
  refine own_body (plainFor_of_name pn_2) (fun m => ef_pheight m a) ?_
  intro p e s m below meth c T0 hx hby hml hZ hown hnm hret hlk X0 e0
  have N0 := Fr.nil n0
  refine g_aloadN X0 hx (hb hby d_prog_11_m_9_0) rfl rfl rfl ?_
  refine g_getF X0 hx hZ hown (host := "") (Or.inl (hw _ (List.mem_of_getElem? (i := 21) rfl))) Via.refl e0 F_height_a (hb hby d_prog_11_m_9_1) rfl fun T1 X1 e1 => ?_
  exact g_retI X1 hx hret hlk (hb hby d_prog_11_m_9_4) (by decide) (by decide) (by rw [e1]; exact ⟨rfl, N0, rfl⟩)
def Q_dims (Z : State) (a : Addr) (w : Int32) (ht : Int32) (h0 : Heap) (n0 : Nat) (v : Option Value) (h : Heap) (L : List Loc) : Prop := ∃ (d : Addr), v = some (.ref d) ∧ Fr n0 L ∧ Keep h0 h [] ∧ h0.size ≤ d ∧ Exa Z h d "com/example/cropmark/cropmark/iiif/Dimensions" ∧ Fld Z h d "com/example/cropmark/cropmark/iiif/Dimensions" "width" "I" (.int w) ∧ Fld Z h d "com/example/cropmark/cropmark/iiif/Dimensions" "height" "I" (.int ht)
theorem ef_dims (m : MethodId) (x0 : Addr) : entryFrame m #[(.ref x0)] 1 = mkF m 0 #[.val (.ref x0)] [] := by first | (simp [entryFrame, mkF, argsToLocals, Value.category]; done) | rfl
set_option maxRecDepth 65536 in
set_option maxHeartbeats 40000000 in
theorem rm_dims (l : Launch) (Z : State) (a0 : Array Value) (hw : ∀ d ∈ tables_1, d.before a0 Z = true) (a : Addr) (w : Int32) (ht : Int32) (h0 : Heap) (n0 : Nat) (Z0 : n0 ≤ h0.size) (F_width_a : Fld Z h0 a "com/example/cropmark/cropmark/iiif/PixelRegion" "width" "I" (.int w)) (F_height_a : Fld Z h0 a "com/example/cropmark/cropmark/iiif/PixelRegion" "height" "I" (.int ht)) (hw1 : ¬ w < (1 : Int32)) (hh1 : ¬ ht < (1 : Int32)) :
    Ct l Z (⟨"com/example/cropmark/cropmark/iiif/PixelRegion", "dimensions", "()Lcom/example/cropmark/cropmark/iiif/Dimensions;"⟩ : MethodName) prog_11_method_2_code 1 (some (.object "com/example/cropmark/cropmark/iiif/Dimensions")) [] ({ frames := 3, cells := 1, slots := 2, locals := 39 } : Room) #[(.ref a)] h0 (Q_dims Z a w ht h0 n0) := by
  refine own_body (plainFor_of_name pn_2) (fun m => ef_dims m a) ?_
  intro p e s m below meth c T0 hx hby hml hZ hown hnm hret hlk X0 e0
  have N0 := Fr.nil n0
  refine g_new X0 hx hZ hown (hw _ (List.mem_of_getElem? (i := 28) rfl)) (hw _ (List.mem_of_getElem? (i := 29) rfl)) (hw _ (List.mem_of_getElem? (i := 30) rfl)) e0 (hb hby d_prog_11_m_2_0) rfl (by decide) (by decide) fun T1 h1 b1 X1 e1 q1 E1 A1 D1 => ?_
  have ne_a_b1 : a ≠ b1 := own_ne F_width_a.lt q1
  have g_b1 : n0 ≤ b1 := Nat.le_trans Z0 (Nat.le_of_eq q1.symm)
  have sz_b1 : h0.size ≤ b1 := Nat.le_trans (Keep.refl h0 []).1 (Nat.le_of_eq q1.symm)
  have Z1 : n0 ≤ h1.size := Nat.le_trans Z0 E1.1
  have kk1 : Keep h0 h1 [] := (Keep.refl h0 []).ext E1
  have F1_width : Fld Z h1 b1 "com/example/cropmark/cropmark/iiif/Dimensions" "width" "I" (.int (0 : Int32)) := D1 (Or.inr (hw _ (List.mem_of_getElem? (i := 36) rfl))) (ty := .int) (by decide)
  have F1_height : Fld Z h1 b1 "com/example/cropmark/cropmark/iiif/Dimensions" "height" "I" (.int (0 : Int32)) := D1 (Or.inr (hw _ (List.mem_of_getElem? (i := 38) rfl))) (ty := .int) (by decide)
  refine g_dup X1 hx (hb hby d_prog_11_m_2_3) rfl rfl ?_
  refine g_aloadN X1 hx (hb hby d_prog_11_m_2_4) rfl rfl rfl ?_
  have f3 : Fld Z h1 a "com/example/cropmark/cropmark/iiif/PixelRegion" "width" "I" (.int w) := (F_width_a.ext E1)
  refine g_getF X1 hx hZ hown (host := "") (Or.inl (hw _ (List.mem_of_getElem? (i := 19) rfl))) Via.refl e1 f3 (hb hby d_prog_11_m_2_5) rfl fun T2 X2 e2 => ?_
  refine g_aloadN X2 hx (hb hby d_prog_11_m_2_8) rfl rfl rfl ?_
  have f5 : Fld Z h1 a "com/example/cropmark/cropmark/iiif/PixelRegion" "height" "I" (.int ht) := (F_height_a.ext E1)
  refine g_getF X2 hx hZ hown (host := "") (Or.inl (hw _ (List.mem_of_getElem? (i := 21) rfl))) Via.refl e2 f5 (hb hby d_prog_11_m_2_9) rfl fun T4 X4 e4 => ?_
  refine g_special X4 hx hZ hown rfl (hw _ (List.mem_of_getElem? (i := 31) rfl)) (hw _ (List.mem_of_getElem? (i := 32) rfl)) (hw _ (List.mem_of_getElem? (i := 30) rfl)) (hw _ (List.mem_of_getElem? (i := 33) rfl)) (by decide) (a := b1) (rm_dini l Z a0 hw b1 w ht h1 n0 Z1 F1_width F1_height A1 g_b1 hw1 hh1) (by rw [hml]; rfl) e4 [(.int w), (.int ht)] rfl rfl (W := 1) (Nat.le_of_eq rfl) (by decide) (by decide) (by decide) (by decide) (lenOf pd_1 rfl) (hb hby d_prog_11_m_2_12) rfl fun v6 T6 L6 X6 hQ6 => ?_
  obtain ⟨rfl, Nq6, kc6, p6_0, p6_1, p6_2⟩ := hQ6
  have N6 := Fr.app N0 Nq6
  have kk6 : Keep h0 T6.heap [] := kk1.trans kc6 (allS (Or.inr sz_b1) all0)
  have Z6 : n0 ≤ T6.heap.size := Nat.le_trans Z1 kc6.1
  show Ga _ _ _ _ _ _ _ _ _ _ _ [(.ref b1)]
  exact g_retR X6 hx hret hlk rfl rfl rfl (hb hby d_prog_11_m_2_15) (by decide) (by decide) ⟨b1, rfl, N6, kk6, sz_b1, p6_0, p6_1, p6_2⟩
def Q_law (Z : State) (p0 : Int32) (p1 : Int32) (p2 : Int32) (p3 : Int32) (h0 : Heap) (n0 : Nat) (v : Option Value) (h : Heap) (L : List Loc) : Prop := v = some (.int 1) ∧ Fr n0 L
theorem ef_law (m : MethodId) (x0 : Int32) (x1 : Int32) (x2 : Int32) (x3 : Int32) : entryFrame m #[(.int x0), (.int x1), (.int x2), (.int x3)] maxLocals = mkF m 0 #[.val (.int x0), .val (.int x1), .val (.int x2), .val (.int x3), .unset, .unset, .unset, .unset, .unset, .unset] [] := by first | (simp [entryFrame, mkF, argsToLocals, Value.category, maxLocals]; done) | rfl
set_option maxRecDepth 65536 in
set_option maxHeartbeats 40000000 in
theorem rm_law (l : Launch) (Z : State) (a0 : Array Value) (hw : ∀ d ∈ tables_1, d.before a0 Z = true) (ws : List Jvm.Cond) (p0 : Int32) (p1 : Int32) (p2 : Int32) (p3 : Int32) (h0 : Heap) (n0 : Nat) (Z0 : n0 ≤ h0.size) :
    Ct l Z x code maxLocals ret ws room_1 #[(.int p0), (.int p1), (.int p2), (.int p3)] h0 (Q_law Z p0 p1 p2 p3 h0 n0) := by
  refine own_body (plainFor_of_name pn_3) (fun m => ef_law m p0 p1 p2 p3) ?_
  intro p e s m below meth c T0 hx hby hml hZ hown hnm hret hlk X0 e0
  have N0 := Fr.nil n0
  refine g_iloadN X0 hx (hb hby at_0) rfl rfl ?_
  refine g_ldcI X0 hx hZ hown (hw _ (List.mem_of_getElem? (i := 0) rfl)) (hb hby at_1) rfl ?_
  obtain ⟨v3, hv3⟩ : ∃ r, (p0 &&& (2147483647 : Int32)) = r := ⟨_, rfl⟩
  refine g_iand X0 hx (hb hby at_3) rfl hv3 ?_
  refine g_istore X0 hx (Ls' := #[.val (.int p0), .val (.int p1), .val (.int p2), .val (.int p3), .val (.int v3), .unset, .unset, .unset, .unset, .unset]) (hb hby at_4) rfl rfl ?_
  refine g_iloadN X0 hx (hb hby at_6) rfl rfl ?_
  refine g_ldcI X0 hx hZ hown (hw _ (List.mem_of_getElem? (i := 0) rfl)) (hb hby at_7) rfl ?_
  obtain ⟨v9, hv9⟩ : ∃ r, (p1 &&& (2147483647 : Int32)) = r := ⟨_, rfl⟩
  refine g_iand X0 hx (hb hby at_9) rfl hv9 ?_
  refine g_istore X0 hx (Ls' := #[.val (.int p0), .val (.int p1), .val (.int p2), .val (.int p3), .val (.int v3), .val (.int v9), .unset, .unset, .unset, .unset]) (hb hby at_10) rfl rfl ?_
  refine g_iloadN X0 hx (hb hby at_12) rfl rfl ?_
  refine g_ldcI X0 hx hZ hown (hw _ (List.mem_of_getElem? (i := 0) rfl)) (hb hby at_13) rfl ?_
  obtain ⟨v15, hv15⟩ : ∃ r, (p2 &&& (2147483647 : Int32)) = r := ⟨_, rfl⟩
  refine g_iand X0 hx (hb hby at_15) rfl hv15 ?_
  refine g_istore X0 hx (Ls' := #[.val (.int p0), .val (.int p1), .val (.int p2), .val (.int p3), .val (.int v3), .val (.int v9), .val (.int v15), .unset, .unset, .unset]) (hb hby at_16) rfl rfl ?_
  refine g_iload X0 hx (hb hby at_18) rfl rfl ?_
  by_cases hc20 : v15 = (0 : Int32)
  · skip
    refine g_ifN X0 hx (hb hby at_20) rfl (XT.i0_ne_f hc20) ?_
    refine g_iconst X0 hx (r := (1 : Int32)) (hb hby at_23) rfl rfl ?_
    refine g_istore X0 hx (Ls' := #[.val (.int p0), .val (.int p1), .val (.int p2), .val (.int p3), .val (.int v3), .val (.int v9), .val (.int (1 : Int32)), .unset, .unset, .unset]) (hb hby at_24) rfl rfl ?_
    refine g_iloadN X0 hx (hb hby at_26) rfl rfl ?_
    refine g_ldcI X0 hx hZ hown (hw _ (List.mem_of_getElem? (i := 0) rfl)) (hb hby at_27) rfl ?_
    obtain ⟨v29, hv29⟩ : ∃ r, (p3 &&& (2147483647 : Int32)) = r := ⟨_, rfl⟩
    refine g_iand X0 hx (hb hby at_29) rfl hv29 ?_
    refine g_istore X0 hx (Ls' := #[.val (.int p0), .val (.int p1), .val (.int p2), .val (.int p3), .val (.int v3), .val (.int v9), .val (.int (1 : Int32)), .val (.int v29), .unset, .unset]) (hb hby at_30) rfl rfl ?_
    refine g_iload X0 hx (hb hby at_32) rfl rfl ?_
    by_cases hc34 : v29 = (0 : Int32)
    · skip
      refine g_ifN X0 hx (hb hby at_34) rfl (XT.i0_ne_f hc34) ?_
      refine g_iconst X0 hx (r := (1 : Int32)) (hb hby at_37) rfl rfl ?_
      refine g_istore X0 hx (Ls' := #[.val (.int p0), .val (.int p1), .val (.int p2), .val (.int p3), .val (.int v3), .val (.int v9), .val (.int (1 : Int32)), .val (.int (1 : Int32)), .unset, .unset]) (hb hby at_38) rfl rfl ?_
      refine g_new X0 hx hZ hown (hw _ (List.mem_of_getElem? (i := 1) rfl)) (hw _ (List.mem_of_getElem? (i := 2) rfl)) (hw _ (List.mem_of_getElem? (i := 3) rfl)) e0 (hb hby at_40) rfl (by decide) (by decide) fun T1 h1 b1 X1 e1 q1 E1 A1 D1 => ?_
      have g_b1 : n0 ≤ b1 := Nat.le_trans Z0 (Nat.le_of_eq q1.symm)
      have Z1 : n0 ≤ h1.size := Nat.le_trans Z0 E1.1
      have F1_x : Fld Z h1 b1 "com/example/cropmark/cropmark/iiif/PixelRegion" "x" "I" (.int (0 : Int32)) := D1 (Or.inr (hw _ (List.mem_of_getElem? (i := 16) rfl))) (ty := .int) (by decide)
      have F1_y : Fld Z h1 b1 "com/example/cropmark/cropmark/iiif/PixelRegion" "y" "I" (.int (0 : Int32)) := D1 (Or.inr (hw _ (List.mem_of_getElem? (i := 18) rfl))) (ty := .int) (by decide)
      have F1_width : Fld Z h1 b1 "com/example/cropmark/cropmark/iiif/PixelRegion" "width" "I" (.int (0 : Int32)) := D1 (Or.inr (hw _ (List.mem_of_getElem? (i := 20) rfl))) (ty := .int) (by decide)
      have F1_height : Fld Z h1 b1 "com/example/cropmark/cropmark/iiif/PixelRegion" "height" "I" (.int (0 : Int32)) := D1 (Or.inr (hw _ (List.mem_of_getElem? (i := 22) rfl))) (ty := .int) (by decide)
      refine g_dup X1 hx (hb hby at_43) rfl rfl ?_
      refine g_iload X1 hx (hb hby at_44) rfl rfl ?_
      refine g_iload X1 hx (hb hby at_46) rfl rfl ?_
      refine g_iload X1 hx (hb hby at_48) rfl rfl ?_
      refine g_iload X1 hx (hb hby at_50) rfl rfl ?_
      refine g_special X1 hx hZ hown rfl (hw _ (List.mem_of_getElem? (i := 4) rfl)) (hw _ (List.mem_of_getElem? (i := 5) rfl)) (hw _ (List.mem_of_getElem? (i := 3) rfl)) (hw _ (List.mem_of_getElem? (i := 6) rfl)) (by decide) (a := b1) (rm_pini l Z a0 hw b1 v3 v9 (1 : Int32) (1 : Int32) h1 n0 Z1 F1_x F1_y F1_width F1_height A1 g_b1 (own_mx hv3) (own_mx hv9) (by decide) (by decide)) (by rw [hml]; rfl) e1 [(.int v3), (.int v9), (.int (1 : Int32)), (.int (1 : Int32))] rfl rfl (W := 1) (Nat.le_of_eq rfl) (by decide) (by decide) (by decide) (by decide) (lenOf pd_2 rfl) (hb hby at_52) rfl fun v2 T2 L2 X2 hQ2 => ?_
      obtain ⟨rfl, Nq2, kc2, p2_0, p2_1, p2_2, p2_3, p2_4⟩ := hQ2
      have N2 := Fr.app N0 Nq2
      have Z2 : n0 ≤ T2.heap.size := Nat.le_trans Z1 kc2.1
      show Ga _ _ _ _ _ _ _ _ _ _ _ [(.ref b1)]
      refine g_astore X2 hx (Ls' := #[.val (.int p0), .val (.int p1), .val (.int p2), .val (.int p3), .val (.int v3), .val (.int v9), .val (.int (1 : Int32)), .val (.int (1 : Int32)), .val (.ref b1), .unset]) (hb hby at_55) rfl rfl rfl ?_
      refine g_aload X2 hx (hb hby at_57) rfl rfl rfl ?_
      refine g_virtual X2 hx hZ hown (hw _ (List.mem_of_getElem? (i := 23) rfl)) (hw _ (List.mem_of_getElem? (i := 24) rfl)) (notFace_of_selects (args := #[]) (mvT hZ (hw _ (List.mem_of_getElem? (i := 26) rfl)))) (hw _ (List.mem_of_getElem? (i := 26) rfl)) (hw _ (List.mem_of_getElem? (i := 25) rfl)) (hw _ (List.mem_of_getElem? (i := 3) rfl)) (hw _ (List.mem_of_getElem? (i := 27) rfl)) (by decide) (a := b1) p2_0 (rm_dims l Z a0 hw b1 (1 : Int32) (1 : Int32) T2.heap n0 Z2 p2_3 p2_4 (by decide) (by decide)) (by rw [hml]; rfl) rfl [] rfl rfl (W := 0) (Nat.le_of_eq rfl) (by decide) (by decide) (by decide) (by decide) (lenOf pd_3 rfl) (hb hby at_59) rfl fun v3 T3 L3 X3 hQ3 => ?_
      obtain ⟨d_3, rfl, Nq3, kc3, p3_0, p3_1, p3_2, p3_3⟩ := hQ3
      have N3 := Fr.app N2 Nq3
      have ne_b1_d_3 : b1 ≠ d_3 := own_neK p2_0.lt p3_0
      have g_d_3 : n0 ≤ d_3 := Nat.le_trans Z2 p3_0
      have Z3 : n0 ≤ T3.heap.size := Nat.le_trans Z2 kc3.1
      show Ga _ _ _ _ _ _ _ _ _ _ _ [(.ref d_3)]
      refine g_astore X3 hx (Ls' := #[.val (.int p0), .val (.int p1), .val (.int p2), .val (.int p3), .val (.int v3), .val (.int v9), .val (.int (1 : Int32)), .val (.int (1 : Int32)), .val (.ref b1), .val (.ref d_3)]) (hb hby at_62) rfl rfl rfl ?_
      refine g_aload X3 hx (hb hby at_64) rfl rfl rfl ?_
      refine g_ifnonnullY X3 hx (q := 71) (hb hby at_66) (by decide) (by decide) ?_
      refine g_aload X3 hx (hb hby at_71) rfl rfl rfl ?_
      refine g_virtual X3 hx hZ hown (hw _ (List.mem_of_getElem? (i := 39) rfl)) (hw _ (List.mem_of_getElem? (i := 40) rfl)) (notFace_of_selects (args := #[]) (mvT hZ (hw _ (List.mem_of_getElem? (i := 42) rfl)))) (hw _ (List.mem_of_getElem? (i := 42) rfl)) (hw _ (List.mem_of_getElem? (i := 41) rfl)) (hw _ (List.mem_of_getElem? (i := 30) rfl)) (hw _ (List.mem_of_getElem? (i := 43) rfl)) (by decide) (a := d_3) p3_1 (rm_dwidth l Z a0 hw d_3 (1 : Int32) T3.heap n0 Z3 p3_2) (by rw [hml]; rfl) rfl [] rfl rfl (W := 0) (Nat.le_of_eq rfl) (by decide) (by decide) (by decide) (by decide) (lenOf pd_4 rfl) (hb hby at_73) rfl fun v4 T4 L4 X4 hQ4 => ?_
      obtain ⟨rfl, Nq4, eh4⟩ := hQ4
      have N4 := Fr.app N3 Nq4
      show Ga _ _ _ _ _ _ _ _ _ _ _ [(.int (1 : Int32))]
      refine g_iload X4 hx (hb hby at_76) rfl rfl ?_
      refine g_icmpN X4 hx (hb hby at_78) rfl (XT.ii_ne_f (by decide : (1 : Int32) = (1 : Int32))) ?_
      refine g_aload X4 hx (hb hby at_81) rfl rfl rfl ?_
      refine g_virtual X4 hx hZ hown (hw _ (List.mem_of_getElem? (i := 44) rfl)) (hw _ (List.mem_of_getElem? (i := 45) rfl)) (notFace_of_selects (args := #[]) (mvT hZ (hw _ (List.mem_of_getElem? (i := 47) rfl)))) (hw _ (List.mem_of_getElem? (i := 47) rfl)) (hw _ (List.mem_of_getElem? (i := 46) rfl)) (hw _ (List.mem_of_getElem? (i := 30) rfl)) (hw _ (List.mem_of_getElem? (i := 48) rfl)) (by decide) (a := d_3) p3_1 (rm_dheight l Z a0 hw d_3 (1 : Int32) T3.heap n0 Z3 p3_3) (by rw [hml]; rfl) eh4 [] rfl rfl (W := 0) (Nat.le_of_eq rfl) (by decide) (by decide) (by decide) (by decide) (lenOf pd_4 rfl) (hb hby at_83) rfl fun v5 T5 L5 X5 hQ5 => ?_
      obtain ⟨rfl, Nq5, eh5⟩ := hQ5
      have N5 := Fr.app N4 Nq5
      show Ga _ _ _ _ _ _ _ _ _ _ _ [(.int (1 : Int32))]
      refine g_iload X5 hx (hb hby at_86) rfl rfl ?_
      refine g_icmpN X5 hx (hb hby at_88) rfl (XT.ii_ne_f (by decide : (1 : Int32) = (1 : Int32))) ?_
      refine g_aload X5 hx (hb hby at_91) rfl rfl rfl ?_
      have f7 : Fld Z T3.heap b1 "com/example/cropmark/cropmark/iiif/PixelRegion" "x" "I" (.int v3) := (p2_1.keep kc3 nin0)
      have f8 : Exa Z T3.heap b1 "com/example/cropmark/cropmark/iiif/PixelRegion" := (p2_0.keep kc3)
      refine g_virtual X5 hx hZ hown (hw _ (List.mem_of_getElem? (i := 49) rfl)) (hw _ (List.mem_of_getElem? (i := 50) rfl)) (notFace_of_selects (args := #[]) (mvT hZ (hw _ (List.mem_of_getElem? (i := 52) rfl)))) (hw _ (List.mem_of_getElem? (i := 52) rfl)) (hw _ (List.mem_of_getElem? (i := 51) rfl)) (hw _ (List.mem_of_getElem? (i := 3) rfl)) (hw _ (List.mem_of_getElem? (i := 53) rfl)) (by decide) (a := b1) f8 (rm_px l Z a0 hw b1 v3 T3.heap n0 Z3 f7) (by rw [hml]; rfl) eh5 [] rfl rfl (W := 0) (Nat.le_of_eq rfl) (by decide) (by decide) (by decide) (by decide) (lenOf pd_4 rfl) (hb hby at_93) rfl fun v6 T6 L6 X6 hQ6 => ?_
      obtain ⟨rfl, Nq6, eh6⟩ := hQ6
      have N6 := Fr.app N5 Nq6
      show Ga _ _ _ _ _ _ _ _ _ _ _ [(.int v3)]
      refine g_iload X6 hx (hb hby at_96) rfl rfl ?_
      refine g_icmpN X6 hx (hb hby at_98) rfl (XT.ii_ne_f rfl) ?_
      refine g_aload X6 hx (hb hby at_101) rfl rfl rfl ?_
      have f10 : Fld Z T3.heap b1 "com/example/cropmark/cropmark/iiif/PixelRegion" "y" "I" (.int v9) := (p2_2.keep kc3 nin0)
      refine g_virtual X6 hx hZ hown (hw _ (List.mem_of_getElem? (i := 54) rfl)) (hw _ (List.mem_of_getElem? (i := 55) rfl)) (notFace_of_selects (args := #[]) (mvT hZ (hw _ (List.mem_of_getElem? (i := 57) rfl)))) (hw _ (List.mem_of_getElem? (i := 57) rfl)) (hw _ (List.mem_of_getElem? (i := 56) rfl)) (hw _ (List.mem_of_getElem? (i := 3) rfl)) (hw _ (List.mem_of_getElem? (i := 58) rfl)) (by decide) (a := b1) f8 (rm_py l Z a0 hw b1 v9 T3.heap n0 Z3 f10) (by rw [hml]; rfl) eh6 [] rfl rfl (W := 0) (Nat.le_of_eq rfl) (by decide) (by decide) (by decide) (by decide) (lenOf pd_4 rfl) (hb hby at_103) rfl fun v9 T9 L9 X9 hQ9 => ?_
      obtain ⟨rfl, Nq9, eh9⟩ := hQ9
      have N9 := Fr.app N6 Nq9
      show Ga _ _ _ _ _ _ _ _ _ _ _ [(.int v9)]
      refine g_iload X9 hx (hb hby at_106) rfl rfl ?_
      refine g_icmpN X9 hx (hb hby at_108) rfl (XT.ii_ne_f rfl) ?_
      refine g_aload X9 hx (hb hby at_111) rfl rfl rfl ?_
      have f12 : Fld Z T3.heap b1 "com/example/cropmark/cropmark/iiif/PixelRegion" "width" "I" (.int (1 : Int32)) := (p2_3.keep kc3 nin0)
      refine g_virtual X9 hx hZ hown (hw _ (List.mem_of_getElem? (i := 59) rfl)) (hw _ (List.mem_of_getElem? (i := 60) rfl)) (notFace_of_selects (args := #[]) (mvT hZ (hw _ (List.mem_of_getElem? (i := 62) rfl)))) (hw _ (List.mem_of_getElem? (i := 62) rfl)) (hw _ (List.mem_of_getElem? (i := 61) rfl)) (hw _ (List.mem_of_getElem? (i := 3) rfl)) (hw _ (List.mem_of_getElem? (i := 63) rfl)) (by decide) (a := b1) f8 (rm_pwidth l Z a0 hw b1 (1 : Int32) T3.heap n0 Z3 f12) (by rw [hml]; rfl) eh9 [] rfl rfl (W := 0) (Nat.le_of_eq rfl) (by decide) (by decide) (by decide) (by decide) (lenOf pd_4 rfl) (hb hby at_113) rfl fun v11 T11 L11 X11 hQ11 => ?_
      obtain ⟨rfl, Nq11, eh11⟩ := hQ11
      have N11 := Fr.app N9 Nq11
      show Ga _ _ _ _ _ _ _ _ _ _ _ [(.int (1 : Int32))]
      refine g_iload X11 hx (hb hby at_116) rfl rfl ?_
      refine g_icmpN X11 hx (hb hby at_118) rfl (XT.ii_ne_f (by decide : (1 : Int32) = (1 : Int32))) ?_
      refine g_aload X11 hx (hb hby at_121) rfl rfl rfl ?_
      have f14 : Fld Z T3.heap b1 "com/example/cropmark/cropmark/iiif/PixelRegion" "height" "I" (.int (1 : Int32)) := (p2_4.keep kc3 nin0)
      refine g_virtual X11 hx hZ hown (hw _ (List.mem_of_getElem? (i := 64) rfl)) (hw _ (List.mem_of_getElem? (i := 65) rfl)) (notFace_of_selects (args := #[]) (mvT hZ (hw _ (List.mem_of_getElem? (i := 67) rfl)))) (hw _ (List.mem_of_getElem? (i := 67) rfl)) (hw _ (List.mem_of_getElem? (i := 66) rfl)) (hw _ (List.mem_of_getElem? (i := 3) rfl)) (hw _ (List.mem_of_getElem? (i := 68) rfl)) (by decide) (a := b1) f8 (rm_pheight l Z a0 hw b1 (1 : Int32) T3.heap n0 Z3 f14) (by rw [hml]; rfl) eh11 [] rfl rfl (W := 0) (Nat.le_of_eq rfl) (by decide) (by decide) (by decide) (by decide) (lenOf pd_4 rfl) (hb hby at_123) rfl fun v13 T13 L13 X13 hQ13 => ?_
      obtain ⟨rfl, Nq13, eh13⟩ := hQ13
      have N13 := Fr.app N11 Nq13
      show Ga _ _ _ _ _ _ _ _ _ _ _ [(.int (1 : Int32))]
      refine g_iload X13 hx (hb hby at_126) rfl rfl ?_
      refine g_icmpN X13 hx (hb hby at_128) rfl (XT.ii_ne_f (by decide : (1 : Int32) = (1 : Int32))) ?_
      refine g_iconst X13 hx (r := (1 : Int32)) (hb hby at_131) rfl rfl ?_
      refine g_goto X13 hx (q := 136) (hb hby at_132) (by decide) (by decide) ?_
      exact g_retN X13 hx (t := .boolean) (r := (1 : Int32)) hret (by simp) hlk (hb hby at_136) rfl (by decide) (by decide) (by rw [eh13]; exact ⟨rfl, N13⟩)
    · skip
      refine g_ifY X0 hx (q := 40) (hb hby at_34) (XT.i0_ne_t hc34) (by decide) (by decide) ?_
      refine g_new X0 hx hZ hown (hw _ (List.mem_of_getElem? (i := 1) rfl)) (hw _ (List.mem_of_getElem? (i := 2) rfl)) (hw _ (List.mem_of_getElem? (i := 3) rfl)) e0 (hb hby at_40) rfl (by decide) (by decide) fun T15 h15 b15 X15 e15 q15 E15 A15 D15 => ?_
      have g_b15 : n0 ≤ b15 := Nat.le_trans Z0 (Nat.le_of_eq q15.symm)
      have Z15 : n0 ≤ h15.size := Nat.le_trans Z0 E15.1
      have F15_x : Fld Z h15 b15 "com/example/cropmark/cropmark/iiif/PixelRegion" "x" "I" (.int (0 : Int32)) := D15 (Or.inr (hw _ (List.mem_of_getElem? (i := 16) rfl))) (ty := .int) (by decide)
      have F15_y : Fld Z h15 b15 "com/example/cropmark/cropmark/iiif/PixelRegion" "y" "I" (.int (0 : Int32)) := D15 (Or.inr (hw _ (List.mem_of_getElem? (i := 18) rfl))) (ty := .int) (by decide)
      have F15_width : Fld Z h15 b15 "com/example/cropmark/cropmark/iiif/PixelRegion" "width" "I" (.int (0 : Int32)) := D15 (Or.inr (hw _ (List.mem_of_getElem? (i := 20) rfl))) (ty := .int) (by decide)
      have F15_height : Fld Z h15 b15 "com/example/cropmark/cropmark/iiif/PixelRegion" "height" "I" (.int (0 : Int32)) := D15 (Or.inr (hw _ (List.mem_of_getElem? (i := 22) rfl))) (ty := .int) (by decide)
      refine g_dup X15 hx (hb hby at_43) rfl rfl ?_
      refine g_iload X15 hx (hb hby at_44) rfl rfl ?_
      refine g_iload X15 hx (hb hby at_46) rfl rfl ?_
      refine g_iload X15 hx (hb hby at_48) rfl rfl ?_
      refine g_iload X15 hx (hb hby at_50) rfl rfl ?_
      refine g_special X15 hx hZ hown rfl (hw _ (List.mem_of_getElem? (i := 4) rfl)) (hw _ (List.mem_of_getElem? (i := 5) rfl)) (hw _ (List.mem_of_getElem? (i := 3) rfl)) (hw _ (List.mem_of_getElem? (i := 6) rfl)) (by decide) (a := b15) (rm_pini l Z a0 hw b15 v3 v9 (1 : Int32) v29 h15 n0 Z15 F15_x F15_y F15_width F15_height A15 g_b15 (own_mx hv3) (own_mx hv9) (by decide) (own_mx1 hv29 hc34)) (by rw [hml]; rfl) e15 [(.int v3), (.int v9), (.int (1 : Int32)), (.int v29)] rfl rfl (W := 1) (Nat.le_of_eq rfl) (by decide) (by decide) (by decide) (by decide) (lenOf pd_2 rfl) (hb hby at_52) rfl fun v16 T16 L16 X16 hQ16 => ?_
      obtain ⟨rfl, Nq16, kc16, p16_0, p16_1, p16_2, p16_3, p16_4⟩ := hQ16
      have N16 := Fr.app N0 Nq16
      have Z16 : n0 ≤ T16.heap.size := Nat.le_trans Z15 kc16.1
      show Ga _ _ _ _ _ _ _ _ _ _ _ [(.ref b15)]
      refine g_astore X16 hx (Ls' := #[.val (.int p0), .val (.int p1), .val (.int p2), .val (.int p3), .val (.int v3), .val (.int v9), .val (.int (1 : Int32)), .val (.int v29), .val (.ref b15), .unset]) (hb hby at_55) rfl rfl rfl ?_
      refine g_aload X16 hx (hb hby at_57) rfl rfl rfl ?_
      refine g_virtual X16 hx hZ hown (hw _ (List.mem_of_getElem? (i := 23) rfl)) (hw _ (List.mem_of_getElem? (i := 24) rfl)) (notFace_of_selects (args := #[]) (mvT hZ (hw _ (List.mem_of_getElem? (i := 26) rfl)))) (hw _ (List.mem_of_getElem? (i := 26) rfl)) (hw _ (List.mem_of_getElem? (i := 25) rfl)) (hw _ (List.mem_of_getElem? (i := 3) rfl)) (hw _ (List.mem_of_getElem? (i := 27) rfl)) (by decide) (a := b15) p16_0 (rm_dims l Z a0 hw b15 (1 : Int32) v29 T16.heap n0 Z16 p16_3 p16_4 (by decide) (own_mx1 hv29 hc34)) (by rw [hml]; rfl) rfl [] rfl rfl (W := 0) (Nat.le_of_eq rfl) (by decide) (by decide) (by decide) (by decide) (lenOf pd_3 rfl) (hb hby at_59) rfl fun v17 T17 L17 X17 hQ17 => ?_
      obtain ⟨d_17, rfl, Nq17, kc17, p17_0, p17_1, p17_2, p17_3⟩ := hQ17
      have N17 := Fr.app N16 Nq17
      have ne_b15_d_17 : b15 ≠ d_17 := own_neK p16_0.lt p17_0
      have g_d_17 : n0 ≤ d_17 := Nat.le_trans Z16 p17_0
      have Z17 : n0 ≤ T17.heap.size := Nat.le_trans Z16 kc17.1
      show Ga _ _ _ _ _ _ _ _ _ _ _ [(.ref d_17)]
      refine g_astore X17 hx (Ls' := #[.val (.int p0), .val (.int p1), .val (.int p2), .val (.int p3), .val (.int v3), .val (.int v9), .val (.int (1 : Int32)), .val (.int v29), .val (.ref b15), .val (.ref d_17)]) (hb hby at_62) rfl rfl rfl ?_
      refine g_aload X17 hx (hb hby at_64) rfl rfl rfl ?_
      refine g_ifnonnullY X17 hx (q := 71) (hb hby at_66) (by decide) (by decide) ?_
      refine g_aload X17 hx (hb hby at_71) rfl rfl rfl ?_
      refine g_virtual X17 hx hZ hown (hw _ (List.mem_of_getElem? (i := 39) rfl)) (hw _ (List.mem_of_getElem? (i := 40) rfl)) (notFace_of_selects (args := #[]) (mvT hZ (hw _ (List.mem_of_getElem? (i := 42) rfl)))) (hw _ (List.mem_of_getElem? (i := 42) rfl)) (hw _ (List.mem_of_getElem? (i := 41) rfl)) (hw _ (List.mem_of_getElem? (i := 30) rfl)) (hw _ (List.mem_of_getElem? (i := 43) rfl)) (by decide) (a := d_17) p17_1 (rm_dwidth l Z a0 hw d_17 (1 : Int32) T17.heap n0 Z17 p17_2) (by rw [hml]; rfl) rfl [] rfl rfl (W := 0) (Nat.le_of_eq rfl) (by decide) (by decide) (by decide) (by decide) (lenOf pd_4 rfl) (hb hby at_73) rfl fun v18 T18 L18 X18 hQ18 => ?_
      obtain ⟨rfl, Nq18, eh18⟩ := hQ18
      have N18 := Fr.app N17 Nq18
      show Ga _ _ _ _ _ _ _ _ _ _ _ [(.int (1 : Int32))]
      refine g_iload X18 hx (hb hby at_76) rfl rfl ?_
      refine g_icmpN X18 hx (hb hby at_78) rfl (XT.ii_ne_f (by decide : (1 : Int32) = (1 : Int32))) ?_
      refine g_aload X18 hx (hb hby at_81) rfl rfl rfl ?_
      refine g_virtual X18 hx hZ hown (hw _ (List.mem_of_getElem? (i := 44) rfl)) (hw _ (List.mem_of_getElem? (i := 45) rfl)) (notFace_of_selects (args := #[]) (mvT hZ (hw _ (List.mem_of_getElem? (i := 47) rfl)))) (hw _ (List.mem_of_getElem? (i := 47) rfl)) (hw _ (List.mem_of_getElem? (i := 46) rfl)) (hw _ (List.mem_of_getElem? (i := 30) rfl)) (hw _ (List.mem_of_getElem? (i := 48) rfl)) (by decide) (a := d_17) p17_1 (rm_dheight l Z a0 hw d_17 v29 T17.heap n0 Z17 p17_3) (by rw [hml]; rfl) eh18 [] rfl rfl (W := 0) (Nat.le_of_eq rfl) (by decide) (by decide) (by decide) (by decide) (lenOf pd_4 rfl) (hb hby at_83) rfl fun v19 T19 L19 X19 hQ19 => ?_
      obtain ⟨rfl, Nq19, eh19⟩ := hQ19
      have N19 := Fr.app N18 Nq19
      show Ga _ _ _ _ _ _ _ _ _ _ _ [(.int v29)]
      refine g_iload X19 hx (hb hby at_86) rfl rfl ?_
      refine g_icmpN X19 hx (hb hby at_88) rfl (XT.ii_ne_f rfl) ?_
      refine g_aload X19 hx (hb hby at_91) rfl rfl rfl ?_
      have f21 : Fld Z T17.heap b15 "com/example/cropmark/cropmark/iiif/PixelRegion" "x" "I" (.int v3) := (p16_1.keep kc17 nin0)
      have f22 : Exa Z T17.heap b15 "com/example/cropmark/cropmark/iiif/PixelRegion" := (p16_0.keep kc17)
      refine g_virtual X19 hx hZ hown (hw _ (List.mem_of_getElem? (i := 49) rfl)) (hw _ (List.mem_of_getElem? (i := 50) rfl)) (notFace_of_selects (args := #[]) (mvT hZ (hw _ (List.mem_of_getElem? (i := 52) rfl)))) (hw _ (List.mem_of_getElem? (i := 52) rfl)) (hw _ (List.mem_of_getElem? (i := 51) rfl)) (hw _ (List.mem_of_getElem? (i := 3) rfl)) (hw _ (List.mem_of_getElem? (i := 53) rfl)) (by decide) (a := b15) f22 (rm_px l Z a0 hw b15 v3 T17.heap n0 Z17 f21) (by rw [hml]; rfl) eh19 [] rfl rfl (W := 0) (Nat.le_of_eq rfl) (by decide) (by decide) (by decide) (by decide) (lenOf pd_4 rfl) (hb hby at_93) rfl fun v20 T20 L20 X20 hQ20 => ?_
      obtain ⟨rfl, Nq20, eh20⟩ := hQ20
      have N20 := Fr.app N19 Nq20
      show Ga _ _ _ _ _ _ _ _ _ _ _ [(.int v3)]
      refine g_iload X20 hx (hb hby at_96) rfl rfl ?_
      refine g_icmpN X20 hx (hb hby at_98) rfl (XT.ii_ne_f rfl) ?_
      refine g_aload X20 hx (hb hby at_101) rfl rfl rfl ?_
      have f24 : Fld Z T17.heap b15 "com/example/cropmark/cropmark/iiif/PixelRegion" "y" "I" (.int v9) := (p16_2.keep kc17 nin0)
      refine g_virtual X20 hx hZ hown (hw _ (List.mem_of_getElem? (i := 54) rfl)) (hw _ (List.mem_of_getElem? (i := 55) rfl)) (notFace_of_selects (args := #[]) (mvT hZ (hw _ (List.mem_of_getElem? (i := 57) rfl)))) (hw _ (List.mem_of_getElem? (i := 57) rfl)) (hw _ (List.mem_of_getElem? (i := 56) rfl)) (hw _ (List.mem_of_getElem? (i := 3) rfl)) (hw _ (List.mem_of_getElem? (i := 58) rfl)) (by decide) (a := b15) f22 (rm_py l Z a0 hw b15 v9 T17.heap n0 Z17 f24) (by rw [hml]; rfl) eh20 [] rfl rfl (W := 0) (Nat.le_of_eq rfl) (by decide) (by decide) (by decide) (by decide) (lenOf pd_4 rfl) (hb hby at_103) rfl fun v23 T23 L23 X23 hQ23 => ?_
      obtain ⟨rfl, Nq23, eh23⟩ := hQ23
      have N23 := Fr.app N20 Nq23
      show Ga _ _ _ _ _ _ _ _ _ _ _ [(.int v9)]
      refine g_iload X23 hx (hb hby at_106) rfl rfl ?_
      refine g_icmpN X23 hx (hb hby at_108) rfl (XT.ii_ne_f rfl) ?_
      refine g_aload X23 hx (hb hby at_111) rfl rfl rfl ?_
      have f26 : Fld Z T17.heap b15 "com/example/cropmark/cropmark/iiif/PixelRegion" "width" "I" (.int (1 : Int32)) := (p16_3.keep kc17 nin0)
      refine g_virtual X23 hx hZ hown (hw _ (List.mem_of_getElem? (i := 59) rfl)) (hw _ (List.mem_of_getElem? (i := 60) rfl)) (notFace_of_selects (args := #[]) (mvT hZ (hw _ (List.mem_of_getElem? (i := 62) rfl)))) (hw _ (List.mem_of_getElem? (i := 62) rfl)) (hw _ (List.mem_of_getElem? (i := 61) rfl)) (hw _ (List.mem_of_getElem? (i := 3) rfl)) (hw _ (List.mem_of_getElem? (i := 63) rfl)) (by decide) (a := b15) f22 (rm_pwidth l Z a0 hw b15 (1 : Int32) T17.heap n0 Z17 f26) (by rw [hml]; rfl) eh23 [] rfl rfl (W := 0) (Nat.le_of_eq rfl) (by decide) (by decide) (by decide) (by decide) (lenOf pd_4 rfl) (hb hby at_113) rfl fun v25 T25 L25 X25 hQ25 => ?_
      obtain ⟨rfl, Nq25, eh25⟩ := hQ25
      have N25 := Fr.app N23 Nq25
      show Ga _ _ _ _ _ _ _ _ _ _ _ [(.int (1 : Int32))]
      refine g_iload X25 hx (hb hby at_116) rfl rfl ?_
      refine g_icmpN X25 hx (hb hby at_118) rfl (XT.ii_ne_f (by decide : (1 : Int32) = (1 : Int32))) ?_
      refine g_aload X25 hx (hb hby at_121) rfl rfl rfl ?_
      have f28 : Fld Z T17.heap b15 "com/example/cropmark/cropmark/iiif/PixelRegion" "height" "I" (.int v29) := (p16_4.keep kc17 nin0)
      refine g_virtual X25 hx hZ hown (hw _ (List.mem_of_getElem? (i := 64) rfl)) (hw _ (List.mem_of_getElem? (i := 65) rfl)) (notFace_of_selects (args := #[]) (mvT hZ (hw _ (List.mem_of_getElem? (i := 67) rfl)))) (hw _ (List.mem_of_getElem? (i := 67) rfl)) (hw _ (List.mem_of_getElem? (i := 66) rfl)) (hw _ (List.mem_of_getElem? (i := 3) rfl)) (hw _ (List.mem_of_getElem? (i := 68) rfl)) (by decide) (a := b15) f22 (rm_pheight l Z a0 hw b15 v29 T17.heap n0 Z17 f28) (by rw [hml]; rfl) eh25 [] rfl rfl (W := 0) (Nat.le_of_eq rfl) (by decide) (by decide) (by decide) (by decide) (lenOf pd_4 rfl) (hb hby at_123) rfl fun v27 T27 L27 X27 hQ27 => ?_
      obtain ⟨rfl, Nq27, eh27⟩ := hQ27
      have N27 := Fr.app N25 Nq27
      show Ga _ _ _ _ _ _ _ _ _ _ _ [(.int v29)]
      refine g_iload X27 hx (hb hby at_126) rfl rfl ?_
      refine g_icmpN X27 hx (hb hby at_128) rfl (XT.ii_ne_f rfl) ?_
      refine g_iconst X27 hx (r := (1 : Int32)) (hb hby at_131) rfl rfl ?_
      refine g_goto X27 hx (q := 136) (hb hby at_132) (by decide) (by decide) ?_
      exact g_retN X27 hx (t := .boolean) (r := (1 : Int32)) hret (by simp) hlk (hb hby at_136) rfl (by decide) (by decide) (by rw [eh27]; exact ⟨rfl, N27⟩)
  · skip
    refine g_ifY X0 hx (q := 26) (hb hby at_20) (XT.i0_ne_t hc20) (by decide) (by decide) ?_
    refine g_iloadN X0 hx (hb hby at_26) rfl rfl ?_
    refine g_ldcI X0 hx hZ hown (hw _ (List.mem_of_getElem? (i := 0) rfl)) (hb hby at_27) rfl ?_
    obtain ⟨v29, hv29⟩ : ∃ r, (p3 &&& (2147483647 : Int32)) = r := ⟨_, rfl⟩
    refine g_iand X0 hx (hb hby at_29) rfl hv29 ?_
    refine g_istore X0 hx (Ls' := #[.val (.int p0), .val (.int p1), .val (.int p2), .val (.int p3), .val (.int v3), .val (.int v9), .val (.int v15), .val (.int v29), .unset, .unset]) (hb hby at_30) rfl rfl ?_
    refine g_iload X0 hx (hb hby at_32) rfl rfl ?_
    by_cases hc34 : v29 = (0 : Int32)
    · skip
      refine g_ifN X0 hx (hb hby at_34) rfl (XT.i0_ne_f hc34) ?_
      refine g_iconst X0 hx (r := (1 : Int32)) (hb hby at_37) rfl rfl ?_
      refine g_istore X0 hx (Ls' := #[.val (.int p0), .val (.int p1), .val (.int p2), .val (.int p3), .val (.int v3), .val (.int v9), .val (.int v15), .val (.int (1 : Int32)), .unset, .unset]) (hb hby at_38) rfl rfl ?_
      refine g_new X0 hx hZ hown (hw _ (List.mem_of_getElem? (i := 1) rfl)) (hw _ (List.mem_of_getElem? (i := 2) rfl)) (hw _ (List.mem_of_getElem? (i := 3) rfl)) e0 (hb hby at_40) rfl (by decide) (by decide) fun T29 h29 b29 X29 e29 q29 E29 A29 D29 => ?_
      have g_b29 : n0 ≤ b29 := Nat.le_trans Z0 (Nat.le_of_eq q29.symm)
      have Z29 : n0 ≤ h29.size := Nat.le_trans Z0 E29.1
      have F29_x : Fld Z h29 b29 "com/example/cropmark/cropmark/iiif/PixelRegion" "x" "I" (.int (0 : Int32)) := D29 (Or.inr (hw _ (List.mem_of_getElem? (i := 16) rfl))) (ty := .int) (by decide)
      have F29_y : Fld Z h29 b29 "com/example/cropmark/cropmark/iiif/PixelRegion" "y" "I" (.int (0 : Int32)) := D29 (Or.inr (hw _ (List.mem_of_getElem? (i := 18) rfl))) (ty := .int) (by decide)
      have F29_width : Fld Z h29 b29 "com/example/cropmark/cropmark/iiif/PixelRegion" "width" "I" (.int (0 : Int32)) := D29 (Or.inr (hw _ (List.mem_of_getElem? (i := 20) rfl))) (ty := .int) (by decide)
      have F29_height : Fld Z h29 b29 "com/example/cropmark/cropmark/iiif/PixelRegion" "height" "I" (.int (0 : Int32)) := D29 (Or.inr (hw _ (List.mem_of_getElem? (i := 22) rfl))) (ty := .int) (by decide)
      refine g_dup X29 hx (hb hby at_43) rfl rfl ?_
      refine g_iload X29 hx (hb hby at_44) rfl rfl ?_
      refine g_iload X29 hx (hb hby at_46) rfl rfl ?_
      refine g_iload X29 hx (hb hby at_48) rfl rfl ?_
      refine g_iload X29 hx (hb hby at_50) rfl rfl ?_
      refine g_special X29 hx hZ hown rfl (hw _ (List.mem_of_getElem? (i := 4) rfl)) (hw _ (List.mem_of_getElem? (i := 5) rfl)) (hw _ (List.mem_of_getElem? (i := 3) rfl)) (hw _ (List.mem_of_getElem? (i := 6) rfl)) (by decide) (a := b29) (rm_pini l Z a0 hw b29 v3 v9 v15 (1 : Int32) h29 n0 Z29 F29_x F29_y F29_width F29_height A29 g_b29 (own_mx hv3) (own_mx hv9) (own_mx1 hv15 hc20) (by decide)) (by rw [hml]; rfl) e29 [(.int v3), (.int v9), (.int v15), (.int (1 : Int32))] rfl rfl (W := 1) (Nat.le_of_eq rfl) (by decide) (by decide) (by decide) (by decide) (lenOf pd_2 rfl) (hb hby at_52) rfl fun v30 T30 L30 X30 hQ30 => ?_
      obtain ⟨rfl, Nq30, kc30, p30_0, p30_1, p30_2, p30_3, p30_4⟩ := hQ30
      have N30 := Fr.app N0 Nq30
      have Z30 : n0 ≤ T30.heap.size := Nat.le_trans Z29 kc30.1
      show Ga _ _ _ _ _ _ _ _ _ _ _ [(.ref b29)]
      refine g_astore X30 hx (Ls' := #[.val (.int p0), .val (.int p1), .val (.int p2), .val (.int p3), .val (.int v3), .val (.int v9), .val (.int v15), .val (.int (1 : Int32)), .val (.ref b29), .unset]) (hb hby at_55) rfl rfl rfl ?_
      refine g_aload X30 hx (hb hby at_57) rfl rfl rfl ?_
      refine g_virtual X30 hx hZ hown (hw _ (List.mem_of_getElem? (i := 23) rfl)) (hw _ (List.mem_of_getElem? (i := 24) rfl)) (notFace_of_selects (args := #[]) (mvT hZ (hw _ (List.mem_of_getElem? (i := 26) rfl)))) (hw _ (List.mem_of_getElem? (i := 26) rfl)) (hw _ (List.mem_of_getElem? (i := 25) rfl)) (hw _ (List.mem_of_getElem? (i := 3) rfl)) (hw _ (List.mem_of_getElem? (i := 27) rfl)) (by decide) (a := b29) p30_0 (rm_dims l Z a0 hw b29 v15 (1 : Int32) T30.heap n0 Z30 p30_3 p30_4 (own_mx1 hv15 hc20) (by decide)) (by rw [hml]; rfl) rfl [] rfl rfl (W := 0) (Nat.le_of_eq rfl) (by decide) (by decide) (by decide) (by decide) (lenOf pd_3 rfl) (hb hby at_59) rfl fun v31 T31 L31 X31 hQ31 => ?_
      obtain ⟨d_31, rfl, Nq31, kc31, p31_0, p31_1, p31_2, p31_3⟩ := hQ31
      have N31 := Fr.app N30 Nq31
      have ne_b29_d_31 : b29 ≠ d_31 := own_neK p30_0.lt p31_0
      have g_d_31 : n0 ≤ d_31 := Nat.le_trans Z30 p31_0
      have Z31 : n0 ≤ T31.heap.size := Nat.le_trans Z30 kc31.1
      show Ga _ _ _ _ _ _ _ _ _ _ _ [(.ref d_31)]
      refine g_astore X31 hx (Ls' := #[.val (.int p0), .val (.int p1), .val (.int p2), .val (.int p3), .val (.int v3), .val (.int v9), .val (.int v15), .val (.int (1 : Int32)), .val (.ref b29), .val (.ref d_31)]) (hb hby at_62) rfl rfl rfl ?_
      refine g_aload X31 hx (hb hby at_64) rfl rfl rfl ?_
      refine g_ifnonnullY X31 hx (q := 71) (hb hby at_66) (by decide) (by decide) ?_
      refine g_aload X31 hx (hb hby at_71) rfl rfl rfl ?_
      refine g_virtual X31 hx hZ hown (hw _ (List.mem_of_getElem? (i := 39) rfl)) (hw _ (List.mem_of_getElem? (i := 40) rfl)) (notFace_of_selects (args := #[]) (mvT hZ (hw _ (List.mem_of_getElem? (i := 42) rfl)))) (hw _ (List.mem_of_getElem? (i := 42) rfl)) (hw _ (List.mem_of_getElem? (i := 41) rfl)) (hw _ (List.mem_of_getElem? (i := 30) rfl)) (hw _ (List.mem_of_getElem? (i := 43) rfl)) (by decide) (a := d_31) p31_1 (rm_dwidth l Z a0 hw d_31 v15 T31.heap n0 Z31 p31_2) (by rw [hml]; rfl) rfl [] rfl rfl (W := 0) (Nat.le_of_eq rfl) (by decide) (by decide) (by decide) (by decide) (lenOf pd_4 rfl) (hb hby at_73) rfl fun v32 T32 L32 X32 hQ32 => ?_
      obtain ⟨rfl, Nq32, eh32⟩ := hQ32
      have N32 := Fr.app N31 Nq32
      show Ga _ _ _ _ _ _ _ _ _ _ _ [(.int v15)]
      refine g_iload X32 hx (hb hby at_76) rfl rfl ?_
      refine g_icmpN X32 hx (hb hby at_78) rfl (XT.ii_ne_f rfl) ?_
      refine g_aload X32 hx (hb hby at_81) rfl rfl rfl ?_
      refine g_virtual X32 hx hZ hown (hw _ (List.mem_of_getElem? (i := 44) rfl)) (hw _ (List.mem_of_getElem? (i := 45) rfl)) (notFace_of_selects (args := #[]) (mvT hZ (hw _ (List.mem_of_getElem? (i := 47) rfl)))) (hw _ (List.mem_of_getElem? (i := 47) rfl)) (hw _ (List.mem_of_getElem? (i := 46) rfl)) (hw _ (List.mem_of_getElem? (i := 30) rfl)) (hw _ (List.mem_of_getElem? (i := 48) rfl)) (by decide) (a := d_31) p31_1 (rm_dheight l Z a0 hw d_31 (1 : Int32) T31.heap n0 Z31 p31_3) (by rw [hml]; rfl) eh32 [] rfl rfl (W := 0) (Nat.le_of_eq rfl) (by decide) (by decide) (by decide) (by decide) (lenOf pd_4 rfl) (hb hby at_83) rfl fun v33 T33 L33 X33 hQ33 => ?_
      obtain ⟨rfl, Nq33, eh33⟩ := hQ33
      have N33 := Fr.app N32 Nq33
      show Ga _ _ _ _ _ _ _ _ _ _ _ [(.int (1 : Int32))]
      refine g_iload X33 hx (hb hby at_86) rfl rfl ?_
      refine g_icmpN X33 hx (hb hby at_88) rfl (XT.ii_ne_f (by decide : (1 : Int32) = (1 : Int32))) ?_
      refine g_aload X33 hx (hb hby at_91) rfl rfl rfl ?_
      have f35 : Fld Z T31.heap b29 "com/example/cropmark/cropmark/iiif/PixelRegion" "x" "I" (.int v3) := (p30_1.keep kc31 nin0)
      have f36 : Exa Z T31.heap b29 "com/example/cropmark/cropmark/iiif/PixelRegion" := (p30_0.keep kc31)
      refine g_virtual X33 hx hZ hown (hw _ (List.mem_of_getElem? (i := 49) rfl)) (hw _ (List.mem_of_getElem? (i := 50) rfl)) (notFace_of_selects (args := #[]) (mvT hZ (hw _ (List.mem_of_getElem? (i := 52) rfl)))) (hw _ (List.mem_of_getElem? (i := 52) rfl)) (hw _ (List.mem_of_getElem? (i := 51) rfl)) (hw _ (List.mem_of_getElem? (i := 3) rfl)) (hw _ (List.mem_of_getElem? (i := 53) rfl)) (by decide) (a := b29) f36 (rm_px l Z a0 hw b29 v3 T31.heap n0 Z31 f35) (by rw [hml]; rfl) eh33 [] rfl rfl (W := 0) (Nat.le_of_eq rfl) (by decide) (by decide) (by decide) (by decide) (lenOf pd_4 rfl) (hb hby at_93) rfl fun v34 T34 L34 X34 hQ34 => ?_
      obtain ⟨rfl, Nq34, eh34⟩ := hQ34
      have N34 := Fr.app N33 Nq34
      show Ga _ _ _ _ _ _ _ _ _ _ _ [(.int v3)]
      refine g_iload X34 hx (hb hby at_96) rfl rfl ?_
      refine g_icmpN X34 hx (hb hby at_98) rfl (XT.ii_ne_f rfl) ?_
      refine g_aload X34 hx (hb hby at_101) rfl rfl rfl ?_
      have f38 : Fld Z T31.heap b29 "com/example/cropmark/cropmark/iiif/PixelRegion" "y" "I" (.int v9) := (p30_2.keep kc31 nin0)
      refine g_virtual X34 hx hZ hown (hw _ (List.mem_of_getElem? (i := 54) rfl)) (hw _ (List.mem_of_getElem? (i := 55) rfl)) (notFace_of_selects (args := #[]) (mvT hZ (hw _ (List.mem_of_getElem? (i := 57) rfl)))) (hw _ (List.mem_of_getElem? (i := 57) rfl)) (hw _ (List.mem_of_getElem? (i := 56) rfl)) (hw _ (List.mem_of_getElem? (i := 3) rfl)) (hw _ (List.mem_of_getElem? (i := 58) rfl)) (by decide) (a := b29) f36 (rm_py l Z a0 hw b29 v9 T31.heap n0 Z31 f38) (by rw [hml]; rfl) eh34 [] rfl rfl (W := 0) (Nat.le_of_eq rfl) (by decide) (by decide) (by decide) (by decide) (lenOf pd_4 rfl) (hb hby at_103) rfl fun v37 T37 L37 X37 hQ37 => ?_
      obtain ⟨rfl, Nq37, eh37⟩ := hQ37
      have N37 := Fr.app N34 Nq37
      show Ga _ _ _ _ _ _ _ _ _ _ _ [(.int v9)]
      refine g_iload X37 hx (hb hby at_106) rfl rfl ?_
      refine g_icmpN X37 hx (hb hby at_108) rfl (XT.ii_ne_f rfl) ?_
      refine g_aload X37 hx (hb hby at_111) rfl rfl rfl ?_
      have f40 : Fld Z T31.heap b29 "com/example/cropmark/cropmark/iiif/PixelRegion" "width" "I" (.int v15) := (p30_3.keep kc31 nin0)
      refine g_virtual X37 hx hZ hown (hw _ (List.mem_of_getElem? (i := 59) rfl)) (hw _ (List.mem_of_getElem? (i := 60) rfl)) (notFace_of_selects (args := #[]) (mvT hZ (hw _ (List.mem_of_getElem? (i := 62) rfl)))) (hw _ (List.mem_of_getElem? (i := 62) rfl)) (hw _ (List.mem_of_getElem? (i := 61) rfl)) (hw _ (List.mem_of_getElem? (i := 3) rfl)) (hw _ (List.mem_of_getElem? (i := 63) rfl)) (by decide) (a := b29) f36 (rm_pwidth l Z a0 hw b29 v15 T31.heap n0 Z31 f40) (by rw [hml]; rfl) eh37 [] rfl rfl (W := 0) (Nat.le_of_eq rfl) (by decide) (by decide) (by decide) (by decide) (lenOf pd_4 rfl) (hb hby at_113) rfl fun v39 T39 L39 X39 hQ39 => ?_
      obtain ⟨rfl, Nq39, eh39⟩ := hQ39
      have N39 := Fr.app N37 Nq39
      show Ga _ _ _ _ _ _ _ _ _ _ _ [(.int v15)]
      refine g_iload X39 hx (hb hby at_116) rfl rfl ?_
      refine g_icmpN X39 hx (hb hby at_118) rfl (XT.ii_ne_f rfl) ?_
      refine g_aload X39 hx (hb hby at_121) rfl rfl rfl ?_
      have f42 : Fld Z T31.heap b29 "com/example/cropmark/cropmark/iiif/PixelRegion" "height" "I" (.int (1 : Int32)) := (p30_4.keep kc31 nin0)
      refine g_virtual X39 hx hZ hown (hw _ (List.mem_of_getElem? (i := 64) rfl)) (hw _ (List.mem_of_getElem? (i := 65) rfl)) (notFace_of_selects (args := #[]) (mvT hZ (hw _ (List.mem_of_getElem? (i := 67) rfl)))) (hw _ (List.mem_of_getElem? (i := 67) rfl)) (hw _ (List.mem_of_getElem? (i := 66) rfl)) (hw _ (List.mem_of_getElem? (i := 3) rfl)) (hw _ (List.mem_of_getElem? (i := 68) rfl)) (by decide) (a := b29) f36 (rm_pheight l Z a0 hw b29 (1 : Int32) T31.heap n0 Z31 f42) (by rw [hml]; rfl) eh39 [] rfl rfl (W := 0) (Nat.le_of_eq rfl) (by decide) (by decide) (by decide) (by decide) (lenOf pd_4 rfl) (hb hby at_123) rfl fun v41 T41 L41 X41 hQ41 => ?_
      obtain ⟨rfl, Nq41, eh41⟩ := hQ41
      have N41 := Fr.app N39 Nq41
      show Ga _ _ _ _ _ _ _ _ _ _ _ [(.int (1 : Int32))]
      refine g_iload X41 hx (hb hby at_126) rfl rfl ?_
      refine g_icmpN X41 hx (hb hby at_128) rfl (XT.ii_ne_f (by decide : (1 : Int32) = (1 : Int32))) ?_
      refine g_iconst X41 hx (r := (1 : Int32)) (hb hby at_131) rfl rfl ?_
      refine g_goto X41 hx (q := 136) (hb hby at_132) (by decide) (by decide) ?_
      exact g_retN X41 hx (t := .boolean) (r := (1 : Int32)) hret (by simp) hlk (hb hby at_136) rfl (by decide) (by decide) (by rw [eh41]; exact ⟨rfl, N41⟩)
    · skip
      refine g_ifY X0 hx (q := 40) (hb hby at_34) (XT.i0_ne_t hc34) (by decide) (by decide) ?_
      refine g_new X0 hx hZ hown (hw _ (List.mem_of_getElem? (i := 1) rfl)) (hw _ (List.mem_of_getElem? (i := 2) rfl)) (hw _ (List.mem_of_getElem? (i := 3) rfl)) e0 (hb hby at_40) rfl (by decide) (by decide) fun T43 h43 b43 X43 e43 q43 E43 A43 D43 => ?_
      have g_b43 : n0 ≤ b43 := Nat.le_trans Z0 (Nat.le_of_eq q43.symm)
      have Z43 : n0 ≤ h43.size := Nat.le_trans Z0 E43.1
      have F43_x : Fld Z h43 b43 "com/example/cropmark/cropmark/iiif/PixelRegion" "x" "I" (.int (0 : Int32)) := D43 (Or.inr (hw _ (List.mem_of_getElem? (i := 16) rfl))) (ty := .int) (by decide)
      have F43_y : Fld Z h43 b43 "com/example/cropmark/cropmark/iiif/PixelRegion" "y" "I" (.int (0 : Int32)) := D43 (Or.inr (hw _ (List.mem_of_getElem? (i := 18) rfl))) (ty := .int) (by decide)
      have F43_width : Fld Z h43 b43 "com/example/cropmark/cropmark/iiif/PixelRegion" "width" "I" (.int (0 : Int32)) := D43 (Or.inr (hw _ (List.mem_of_getElem? (i := 20) rfl))) (ty := .int) (by decide)
      have F43_height : Fld Z h43 b43 "com/example/cropmark/cropmark/iiif/PixelRegion" "height" "I" (.int (0 : Int32)) := D43 (Or.inr (hw _ (List.mem_of_getElem? (i := 22) rfl))) (ty := .int) (by decide)
      refine g_dup X43 hx (hb hby at_43) rfl rfl ?_
      refine g_iload X43 hx (hb hby at_44) rfl rfl ?_
      refine g_iload X43 hx (hb hby at_46) rfl rfl ?_
      refine g_iload X43 hx (hb hby at_48) rfl rfl ?_
      refine g_iload X43 hx (hb hby at_50) rfl rfl ?_
      refine g_special X43 hx hZ hown rfl (hw _ (List.mem_of_getElem? (i := 4) rfl)) (hw _ (List.mem_of_getElem? (i := 5) rfl)) (hw _ (List.mem_of_getElem? (i := 3) rfl)) (hw _ (List.mem_of_getElem? (i := 6) rfl)) (by decide) (a := b43) (rm_pini l Z a0 hw b43 v3 v9 v15 v29 h43 n0 Z43 F43_x F43_y F43_width F43_height A43 g_b43 (own_mx hv3) (own_mx hv9) (own_mx1 hv15 hc20) (own_mx1 hv29 hc34)) (by rw [hml]; rfl) e43 [(.int v3), (.int v9), (.int v15), (.int v29)] rfl rfl (W := 1) (Nat.le_of_eq rfl) (by decide) (by decide) (by decide) (by decide) (lenOf pd_2 rfl) (hb hby at_52) rfl fun v44 T44 L44 X44 hQ44 => ?_
      obtain ⟨rfl, Nq44, kc44, p44_0, p44_1, p44_2, p44_3, p44_4⟩ := hQ44
      have N44 := Fr.app N0 Nq44
      have Z44 : n0 ≤ T44.heap.size := Nat.le_trans Z43 kc44.1
      show Ga _ _ _ _ _ _ _ _ _ _ _ [(.ref b43)]
      refine g_astore X44 hx (Ls' := #[.val (.int p0), .val (.int p1), .val (.int p2), .val (.int p3), .val (.int v3), .val (.int v9), .val (.int v15), .val (.int v29), .val (.ref b43), .unset]) (hb hby at_55) rfl rfl rfl ?_
      refine g_aload X44 hx (hb hby at_57) rfl rfl rfl ?_
      refine g_virtual X44 hx hZ hown (hw _ (List.mem_of_getElem? (i := 23) rfl)) (hw _ (List.mem_of_getElem? (i := 24) rfl)) (notFace_of_selects (args := #[]) (mvT hZ (hw _ (List.mem_of_getElem? (i := 26) rfl)))) (hw _ (List.mem_of_getElem? (i := 26) rfl)) (hw _ (List.mem_of_getElem? (i := 25) rfl)) (hw _ (List.mem_of_getElem? (i := 3) rfl)) (hw _ (List.mem_of_getElem? (i := 27) rfl)) (by decide) (a := b43) p44_0 (rm_dims l Z a0 hw b43 v15 v29 T44.heap n0 Z44 p44_3 p44_4 (own_mx1 hv15 hc20) (own_mx1 hv29 hc34)) (by rw [hml]; rfl) rfl [] rfl rfl (W := 0) (Nat.le_of_eq rfl) (by decide) (by decide) (by decide) (by decide) (lenOf pd_3 rfl) (hb hby at_59) rfl fun v45 T45 L45 X45 hQ45 => ?_
      obtain ⟨d_45, rfl, Nq45, kc45, p45_0, p45_1, p45_2, p45_3⟩ := hQ45
      have N45 := Fr.app N44 Nq45
      have ne_b43_d_45 : b43 ≠ d_45 := own_neK p44_0.lt p45_0
      have g_d_45 : n0 ≤ d_45 := Nat.le_trans Z44 p45_0
      have Z45 : n0 ≤ T45.heap.size := Nat.le_trans Z44 kc45.1
      show Ga _ _ _ _ _ _ _ _ _ _ _ [(.ref d_45)]
      refine g_astore X45 hx (Ls' := #[.val (.int p0), .val (.int p1), .val (.int p2), .val (.int p3), .val (.int v3), .val (.int v9), .val (.int v15), .val (.int v29), .val (.ref b43), .val (.ref d_45)]) (hb hby at_62) rfl rfl rfl ?_
      refine g_aload X45 hx (hb hby at_64) rfl rfl rfl ?_
      refine g_ifnonnullY X45 hx (q := 71) (hb hby at_66) (by decide) (by decide) ?_
      refine g_aload X45 hx (hb hby at_71) rfl rfl rfl ?_
      refine g_virtual X45 hx hZ hown (hw _ (List.mem_of_getElem? (i := 39) rfl)) (hw _ (List.mem_of_getElem? (i := 40) rfl)) (notFace_of_selects (args := #[]) (mvT hZ (hw _ (List.mem_of_getElem? (i := 42) rfl)))) (hw _ (List.mem_of_getElem? (i := 42) rfl)) (hw _ (List.mem_of_getElem? (i := 41) rfl)) (hw _ (List.mem_of_getElem? (i := 30) rfl)) (hw _ (List.mem_of_getElem? (i := 43) rfl)) (by decide) (a := d_45) p45_1 (rm_dwidth l Z a0 hw d_45 v15 T45.heap n0 Z45 p45_2) (by rw [hml]; rfl) rfl [] rfl rfl (W := 0) (Nat.le_of_eq rfl) (by decide) (by decide) (by decide) (by decide) (lenOf pd_4 rfl) (hb hby at_73) rfl fun v46 T46 L46 X46 hQ46 => ?_
      obtain ⟨rfl, Nq46, eh46⟩ := hQ46
      have N46 := Fr.app N45 Nq46
      show Ga _ _ _ _ _ _ _ _ _ _ _ [(.int v15)]
      refine g_iload X46 hx (hb hby at_76) rfl rfl ?_
      refine g_icmpN X46 hx (hb hby at_78) rfl (XT.ii_ne_f rfl) ?_
      refine g_aload X46 hx (hb hby at_81) rfl rfl rfl ?_
      refine g_virtual X46 hx hZ hown (hw _ (List.mem_of_getElem? (i := 44) rfl)) (hw _ (List.mem_of_getElem? (i := 45) rfl)) (notFace_of_selects (args := #[]) (mvT hZ (hw _ (List.mem_of_getElem? (i := 47) rfl)))) (hw _ (List.mem_of_getElem? (i := 47) rfl)) (hw _ (List.mem_of_getElem? (i := 46) rfl)) (hw _ (List.mem_of_getElem? (i := 30) rfl)) (hw _ (List.mem_of_getElem? (i := 48) rfl)) (by decide) (a := d_45) p45_1 (rm_dheight l Z a0 hw d_45 v29 T45.heap n0 Z45 p45_3) (by rw [hml]; rfl) eh46 [] rfl rfl (W := 0) (Nat.le_of_eq rfl) (by decide) (by decide) (by decide) (by decide) (lenOf pd_4 rfl) (hb hby at_83) rfl fun v47 T47 L47 X47 hQ47 => ?_
      obtain ⟨rfl, Nq47, eh47⟩ := hQ47
      have N47 := Fr.app N46 Nq47
      show Ga _ _ _ _ _ _ _ _ _ _ _ [(.int v29)]
      refine g_iload X47 hx (hb hby at_86) rfl rfl ?_
      refine g_icmpN X47 hx (hb hby at_88) rfl (XT.ii_ne_f rfl) ?_
      refine g_aload X47 hx (hb hby at_91) rfl rfl rfl ?_
      have f49 : Fld Z T45.heap b43 "com/example/cropmark/cropmark/iiif/PixelRegion" "x" "I" (.int v3) := (p44_1.keep kc45 nin0)
      have f50 : Exa Z T45.heap b43 "com/example/cropmark/cropmark/iiif/PixelRegion" := (p44_0.keep kc45)
      refine g_virtual X47 hx hZ hown (hw _ (List.mem_of_getElem? (i := 49) rfl)) (hw _ (List.mem_of_getElem? (i := 50) rfl)) (notFace_of_selects (args := #[]) (mvT hZ (hw _ (List.mem_of_getElem? (i := 52) rfl)))) (hw _ (List.mem_of_getElem? (i := 52) rfl)) (hw _ (List.mem_of_getElem? (i := 51) rfl)) (hw _ (List.mem_of_getElem? (i := 3) rfl)) (hw _ (List.mem_of_getElem? (i := 53) rfl)) (by decide) (a := b43) f50 (rm_px l Z a0 hw b43 v3 T45.heap n0 Z45 f49) (by rw [hml]; rfl) eh47 [] rfl rfl (W := 0) (Nat.le_of_eq rfl) (by decide) (by decide) (by decide) (by decide) (lenOf pd_4 rfl) (hb hby at_93) rfl fun v48 T48 L48 X48 hQ48 => ?_
      obtain ⟨rfl, Nq48, eh48⟩ := hQ48
      have N48 := Fr.app N47 Nq48
      show Ga _ _ _ _ _ _ _ _ _ _ _ [(.int v3)]
      refine g_iload X48 hx (hb hby at_96) rfl rfl ?_
      refine g_icmpN X48 hx (hb hby at_98) rfl (XT.ii_ne_f rfl) ?_
      refine g_aload X48 hx (hb hby at_101) rfl rfl rfl ?_
      have f52 : Fld Z T45.heap b43 "com/example/cropmark/cropmark/iiif/PixelRegion" "y" "I" (.int v9) := (p44_2.keep kc45 nin0)
      refine g_virtual X48 hx hZ hown (hw _ (List.mem_of_getElem? (i := 54) rfl)) (hw _ (List.mem_of_getElem? (i := 55) rfl)) (notFace_of_selects (args := #[]) (mvT hZ (hw _ (List.mem_of_getElem? (i := 57) rfl)))) (hw _ (List.mem_of_getElem? (i := 57) rfl)) (hw _ (List.mem_of_getElem? (i := 56) rfl)) (hw _ (List.mem_of_getElem? (i := 3) rfl)) (hw _ (List.mem_of_getElem? (i := 58) rfl)) (by decide) (a := b43) f50 (rm_py l Z a0 hw b43 v9 T45.heap n0 Z45 f52) (by rw [hml]; rfl) eh48 [] rfl rfl (W := 0) (Nat.le_of_eq rfl) (by decide) (by decide) (by decide) (by decide) (lenOf pd_4 rfl) (hb hby at_103) rfl fun v51 T51 L51 X51 hQ51 => ?_
      obtain ⟨rfl, Nq51, eh51⟩ := hQ51
      have N51 := Fr.app N48 Nq51
      show Ga _ _ _ _ _ _ _ _ _ _ _ [(.int v9)]
      refine g_iload X51 hx (hb hby at_106) rfl rfl ?_
      refine g_icmpN X51 hx (hb hby at_108) rfl (XT.ii_ne_f rfl) ?_
      refine g_aload X51 hx (hb hby at_111) rfl rfl rfl ?_
      have f54 : Fld Z T45.heap b43 "com/example/cropmark/cropmark/iiif/PixelRegion" "width" "I" (.int v15) := (p44_3.keep kc45 nin0)
      refine g_virtual X51 hx hZ hown (hw _ (List.mem_of_getElem? (i := 59) rfl)) (hw _ (List.mem_of_getElem? (i := 60) rfl)) (notFace_of_selects (args := #[]) (mvT hZ (hw _ (List.mem_of_getElem? (i := 62) rfl)))) (hw _ (List.mem_of_getElem? (i := 62) rfl)) (hw _ (List.mem_of_getElem? (i := 61) rfl)) (hw _ (List.mem_of_getElem? (i := 3) rfl)) (hw _ (List.mem_of_getElem? (i := 63) rfl)) (by decide) (a := b43) f50 (rm_pwidth l Z a0 hw b43 v15 T45.heap n0 Z45 f54) (by rw [hml]; rfl) eh51 [] rfl rfl (W := 0) (Nat.le_of_eq rfl) (by decide) (by decide) (by decide) (by decide) (lenOf pd_4 rfl) (hb hby at_113) rfl fun v53 T53 L53 X53 hQ53 => ?_
      obtain ⟨rfl, Nq53, eh53⟩ := hQ53
      have N53 := Fr.app N51 Nq53
      show Ga _ _ _ _ _ _ _ _ _ _ _ [(.int v15)]
      refine g_iload X53 hx (hb hby at_116) rfl rfl ?_
      refine g_icmpN X53 hx (hb hby at_118) rfl (XT.ii_ne_f rfl) ?_
      refine g_aload X53 hx (hb hby at_121) rfl rfl rfl ?_
      have f56 : Fld Z T45.heap b43 "com/example/cropmark/cropmark/iiif/PixelRegion" "height" "I" (.int v29) := (p44_4.keep kc45 nin0)
      refine g_virtual X53 hx hZ hown (hw _ (List.mem_of_getElem? (i := 64) rfl)) (hw _ (List.mem_of_getElem? (i := 65) rfl)) (notFace_of_selects (args := #[]) (mvT hZ (hw _ (List.mem_of_getElem? (i := 67) rfl)))) (hw _ (List.mem_of_getElem? (i := 67) rfl)) (hw _ (List.mem_of_getElem? (i := 66) rfl)) (hw _ (List.mem_of_getElem? (i := 3) rfl)) (hw _ (List.mem_of_getElem? (i := 68) rfl)) (by decide) (a := b43) f50 (rm_pheight l Z a0 hw b43 v29 T45.heap n0 Z45 f56) (by rw [hml]; rfl) eh53 [] rfl rfl (W := 0) (Nat.le_of_eq rfl) (by decide) (by decide) (by decide) (by decide) (lenOf pd_4 rfl) (hb hby at_123) rfl fun v55 T55 L55 X55 hQ55 => ?_
      obtain ⟨rfl, Nq55, eh55⟩ := hQ55
      have N55 := Fr.app N53 Nq55
      show Ga _ _ _ _ _ _ _ _ _ _ _ [(.int v29)]
      refine g_iload X55 hx (hb hby at_126) rfl rfl ?_
      refine g_icmpN X55 hx (hb hby at_128) rfl (XT.ii_ne_f rfl) ?_
      refine g_iconst X55 hx (r := (1 : Int32)) (hb hby at_131) rfl rfl ?_
      refine g_goto X55 hx (q := 136) (hb hby at_132) (by decide) (by decide) ?_
      exact g_retN X55 hx (t := .boolean) (r := (1 : Int32)) hret (by simp) hlk (hb hby at_136) rfl (by decide) (by decide) (by rw [eh55]; exact ⟨rfl, N55⟩)
set_option maxRecDepth 65536 in
set_option maxHeartbeats 40000000 in
theorem comes_1 {Post : Tables → Env → Array Value → State → Outcome → State → Prop} (hpost : ∀ tb e args s v u, (limb_1_1.after args s (.returned v) u = true ∧ limb_1_2.after args s (.returned v) u = true ∧ True) → FrameEnd s (.returned v) u (Jvm.fieldLocs frame_1_writes args s ++ Jvm.arrayLocs frame_1_arrays args s ++ Jvm.staticLocs frame_1_statics s) 16 128 → Post tb e args s (.returned v) u) :
    ArmFor flags0 classFile x code maxLocals ret World_1 tables_1 room_1 Calls_1 rest_1 Pre_1 Post := by
  intro l hfl _ _ p e ha hc hk s m args below hf hA hF happ hP
  obtain ⟨hcalls, hrest, hpre⟩ := hP
  obtain ⟨-, -, -, hnamed, -, -, -, hat⟩ := (Spec.applies_iff hf).mp happ
  obtain ⟨hg, hn⟩ := and_e (Cond.before_iff.mp (show (Jvm.Cond.and given_1 narrow_1).before args s = true from hpre))
  obtain ⟨hcn, hg1⟩ := and_e hg
  obtain ⟨k1, hg2⟩ := and_e hg1
  obtain ⟨k2, hg3⟩ := and_e hg2
  obtain ⟨k3, hg4⟩ := and_e hg3
  have k4 := hg4
  obtain ⟨w0, w1, w2, w3, rfl⟩ : ∃ w0 w1 w2 w3 : Value, args = #[w0, w1, w2, w3] := by
    have hs : args.size = 4 := by simpa [Cond.value, given_1] using hcn
    obtain ⟨L⟩ := args
    match L, hs with
    | [w0, w1, w2, w3], _ => exact ⟨w0, w1, w2, w3, rfl⟩
  have hw := fun d (hd : d ∈ tables_1) => atoms_spec (ws := Jvm.Cond.code x code maxLocals ret :: tables_1) hat d (List.mem_cons_of_mem _ hd)
  have hfit : Fit s := fun {y c} hc i hi => by
    obtain ⟨ha, rfl⟩ := Array.getElem?_eq_some_iff.mp hc
    have q := List.all_eq_true.mp ((Array.all_eq_true_iff_forall_mem.mp hF) _ (Array.getElem_mem ha)) i (List.mem_range.mpr hi)
    simpa [Array.getElem?_eq_getElem hi] using q
  obtain ⟨i0, ei0⟩ := is_v k1
  obtain rfl : w0 = (.int i0) := Option.some.inj ei0
  obtain ⟨i1, ei1⟩ := is_v k2
  obtain rfl : w1 = (.int i1) := Option.some.inj ei1
  obtain ⟨i2, ei2⟩ := is_v k3
  obtain rfl : w2 = (.int i2) := Option.some.inj ei2
  obtain ⟨i3, ei3⟩ := is_v k4
  obtain rfl : w3 = (.int i3) := Option.some.inj ei3
  obtain ⟨n, o, h1, h2, h3, _, L, rfl, ⟨rfl, N⟩, hq⟩ := rm_law l s _ hw tables_1 i0 i1 i2 i3 s.heap s.heap.size (Nat.le_refl _) p e ha hc hk s m _ below hf ((Spec.applies_iff_loose hf).mp happ).1 ⟨rfl, State.Warmed39.refl s, rfl⟩ trivial
  refine ⟨n, _, h1, h2, h3, hpost _ _ _ _ _ _ ⟨Cond.after_iff.mpr rfl, Cond.after_iff.mpr (eq_i res_at (Term.int_eval (1)) rfl), trivial⟩ ⟨hq.1, hq.2.1, (hq.2.2.sift fun y hy => Or.inr (N y hy)).mono (by decide) (by decide)⟩⟩
theorem main_1_1 : Claimed_1_1 := comes_1 fun _ _ _ _ _ _ h hF => ⟨h.1, hF⟩
theorem main_1_2 : Claimed_1_2 := comes_1 fun _ _ _ _ _ _ h hF => ⟨h.2.1, hF⟩
end Jvm.Pilot.@@N@@
namespace Jvm.Pilot.@@N@@
open Jvm Jvm.ClassFile Sem Op Lib Jvm.Free Jvm.Stand Jvm.Pilot.@@N@@.Jvm.D
/-! MADE BY PROGRAM (witnessworld.py) out of the Statement's table words and the real class files: 11 classes; the members and pool entries that the words name. The judged class is class 1, her method 1. -/
namespace start1
open Jvm.ClassFile
def u (s : String) : CpInfo := .utf8 (stringToUtf16 s)
/-- a pool by its gaps: so many unusable entries, then the entry; so many at the end -/
def gap : Nat → List CpInfo → List CpInfo
  | 0, r => r
  | n + 1, r => .unusable :: gap n r
def poolList (es : List (Nat × CpInfo)) (last : Nat) : List CpInfo := es.foldr (fun e r => gap e.1 (e.2 :: r)) (gap last [])
def pool (es : List (Nat × CpInfo)) (last : Nat) : Array CpInfo := ⟨poolList es last⟩
def fileOf (pool : Array CpInfo) (this : Nat) (attrs : Array Attribute := #[]) (ms : Array MethodInfo := #[]) (fl : Nat := 33) (sup : Nat := 0) (ifs : Array Nat := #[]) (fds : Array FieldInfo := #[]) : ClassFile where
  minorVersion := 0
  majorVersion := 65
  constantPool := pool
  accessFlags := fl
  thisClass := this
  superClass := sup
  interfaces := ifs
  fields := fds
  methods := ms
  attributes := attrs
def plain (name : String) (sup : Option ClassId) : Class where
  name := name
  kind := .ordinary
  loader := none
  accessFlags := 33
  super := sup
  interfaces := #[]
  cf := none
  fields := #[]
  methods := #[]
  instanceTypes := #[]
  staticTypes := #[]
  resolved := #[]
  callSites := []
  init := .initialized
  statics := none
  mirror := none

def pool0 : Array CpInfo := pool [(5, u "<init>"), (0, u "()V"), (1, .class_ 10), (1, u "java/lang/Object")] 113

def k0c0 : Code := { maxStack := 0, maxLocals := 1, code := object_method_1_code, exceptionTable := #[], attributes := #[] }
def k0m0 : Method := { name := "<init>", desc := "()V", sig := { parameters := [], returnType := none }, accessFlags := 1, code := some k0c0 }
/-- java/lang/Object -/
def k0 : Class := { plain "java/lang/Object" none with
  accessFlags := 33
  interfaces := #[]
  cf := some (fileOf pool0 8 #[] #[{ accessFlags := 1, nameIndex := 5, descriptorIndex := 6, attributes := #[] }] 33 0 #[] #[])
  fields := #[]
  methods := #[k0m0]
  instanceTypes := #[]
  staticTypes := #[]
  resolved := Array.replicate 124 none
  statics := none }

def pool1 : Array CpInfo := pool [(2, .class_ 4), (1, u "java/lang/Object"), (0, u "<init>"), (0, u "()V"), (0, .integer 2147483647), (0, .class_ 9), (0, u "com/example/cropmark/cropmark/iiif/PixelRegion"), (0, .methodref 8 11), (0, .nameAndType 5 12), (0, u "(IIII)V"), (0, .methodref 8 14), (0, .nameAndType 15 16), (0, u "dimensions"), (0, u "()Lcom/example/cropmark/cropmark/iiif/Dimensions;"), (0, .methodref 18 19), (0, .class_ 20), (0, .nameAndType 21 22), (0, u "com/example/cropmark/cropmark/iiif/Dimensions"), (0, u "width"), (0, u "()I"), (0, .methodref 18 24), (0, .nameAndType 25 22), (0, u "height"), (0, .methodref 8 27), (0, .nameAndType 28 22), (0, u "x"), (0, .methodref 8 30), (0, .nameAndType 31 22), (0, u "y"), (0, .methodref 8 19), (0, .methodref 8 24), (0, .class_ 35), (0, u "com/example/cropmark/cropmark/iiif/PixelRegionDimensionsPinLaw"), (2, u "law"), (0, u "(IIII)Z")] 3

def k1m0 : Method := { name := "<init>", desc := "()V", sig := { parameters := [], returnType := none }, accessFlags := 2, code := none }
def k1c1 : Code := { maxStack := 6, maxLocals := 10, code := code, exceptionTable := #[], attributes := #[] }
def k1m1 : Method := { name := "law", desc := "(IIII)Z", sig := { parameters := [.int, .int, .int, .int], returnType := some .boolean }, accessFlags := 9, code := some k1c1 }
/-- com/example/cropmark/cropmark/iiif/PixelRegionDimensionsPinLaw -/
def k1 : Class := { plain "com/example/cropmark/cropmark/iiif/PixelRegionDimensionsPinLaw" (some 0) with
  accessFlags := 49
  interfaces := #[]
  cf := some (fileOf pool1 34 #[] #[{ accessFlags := 2, nameIndex := 5, descriptorIndex := 6, attributes := #[] }, { accessFlags := 9, nameIndex := 38, descriptorIndex := 39, attributes := #[] }] 49 2 #[] #[])
  fields := #[]
  methods := #[k1m0, k1m1]
  instanceTypes := #[]
  staticTypes := #[]
  resolved := Array.replicate 43 none
  statics := none }

def pool2 : Array CpInfo := pool [(1, .methodref 2 3), (0, .class_ 4), (0, .nameAndType 5 6), (0, u "java/lang/Object"), (0, u "<init>"), (0, u "()V"), (0, .class_ 8), (0, u "java/lang/Record")] 13

def k2c0 : Code := { maxStack := 1, maxLocals := 1, code := jdk_30_method_1_code, exceptionTable := #[], attributes := #[] }
def k2m0 : Method := { name := "<init>", desc := "()V", sig := { parameters := [], returnType := none }, accessFlags := 4, code := some k2c0 }
/-- java/lang/Record -/
def k2 : Class := { plain "java/lang/Record" (some 0) with
  accessFlags := 1057
  interfaces := #[]
  cf := some (fileOf pool2 7 #[] #[{ accessFlags := 4, nameIndex := 5, descriptorIndex := 6, attributes := #[] }] 1057 2 #[] #[])
  fields := #[]
  methods := #[k2m0]
  instanceTypes := #[]
  staticTypes := #[]
  resolved := Array.replicate 22 none
  statics := none }

def pool3 : Array CpInfo := pool [(1, .methodref 2 3), (0, .class_ 4), (0, .nameAndType 5 6), (0, u "java/lang/Record"), (0, u "<init>"), (0, u "()V"), (9, .fieldref 17 18), (0, .class_ 19), (0, .nameAndType 20 21), (0, u "com/example/cropmark/cropmark/iiif/PixelRegion"), (0, u "x"), (0, u "I"), (0, .fieldref 17 23), (0, .nameAndType 24 21), (0, u "y"), (0, .fieldref 17 26), (0, .nameAndType 27 21), (0, u "width"), (0, .fieldref 17 29), (0, .nameAndType 30 21), (0, u "height"), (0, .class_ 32), (0, u "com/example/cropmark/cropmark/iiif/Dimensions"), (0, .methodref 31 34), (0, .nameAndType 5 35), (0, u "(II)V"), (12, u "(IIII)V"), (4, u "dimensions"), (0, u "()Lcom/example/cropmark/cropmark/iiif/Dimensions;"), (1, u "()I")] 32

def k3c0 : Code := { maxStack := 6, maxLocals := 5, code := prog_11_method_1_code, exceptionTable := #[], attributes := #[] }
def k3m0 : Method := { name := "<init>", desc := "(IIII)V", sig := { parameters := [.int, .int, .int, .int], returnType := none }, accessFlags := 1, code := some k3c0 }
def k3c1 : Code := { maxStack := 4, maxLocals := 1, code := prog_11_method_2_code, exceptionTable := #[], attributes := #[] }
def k3m1 : Method := { name := "dimensions", desc := "()Lcom/example/cropmark/cropmark/iiif/Dimensions;", sig := { parameters := [], returnType := some (.object "com/example/cropmark/cropmark/iiif/Dimensions") }, accessFlags := 1, code := some k3c1 }
def k3c2 : Code := { maxStack := 1, maxLocals := 1, code := prog_11_method_6_code, exceptionTable := #[], attributes := #[] }
def k3m2 : Method := { name := "x", desc := "()I", sig := { parameters := [], returnType := some .int }, accessFlags := 1, code := some k3c2 }
def k3c3 : Code := { maxStack := 1, maxLocals := 1, code := prog_11_method_7_code, exceptionTable := #[], attributes := #[] }
def k3m3 : Method := { name := "y", desc := "()I", sig := { parameters := [], returnType := some .int }, accessFlags := 1, code := some k3c3 }
def k3c4 : Code := { maxStack := 1, maxLocals := 1, code := prog_11_method_8_code, exceptionTable := #[], attributes := #[] }
def k3m4 : Method := { name := "width", desc := "()I", sig := { parameters := [], returnType := some .int }, accessFlags := 1, code := some k3c4 }
def k3c5 : Code := { maxStack := 1, maxLocals := 1, code := prog_11_method_9_code, exceptionTable := #[], attributes := #[] }
def k3m5 : Method := { name := "height", desc := "()I", sig := { parameters := [], returnType := some .int }, accessFlags := 1, code := some k3c5 }
/-- com/example/cropmark/cropmark/iiif/PixelRegion -/
def k3 : Class := { plain "com/example/cropmark/cropmark/iiif/PixelRegion" (some 2) with
  accessFlags := 49
  interfaces := #[]
  cf := some (fileOf pool3 17 #[] #[{ accessFlags := 1, nameIndex := 5, descriptorIndex := 48, attributes := #[] }, { accessFlags := 1, nameIndex := 53, descriptorIndex := 54, attributes := #[] }, { accessFlags := 1, nameIndex := 20, descriptorIndex := 56, attributes := #[] }, { accessFlags := 1, nameIndex := 24, descriptorIndex := 56, attributes := #[] }, { accessFlags := 1, nameIndex := 27, descriptorIndex := 56, attributes := #[] }, { accessFlags := 1, nameIndex := 30, descriptorIndex := 56, attributes := #[] }] 49 2 #[] #[{ accessFlags := 18, nameIndex := 20, descriptorIndex := 21, attributes := #[] }, { accessFlags := 18, nameIndex := 24, descriptorIndex := 21, attributes := #[] }, { accessFlags := 18, nameIndex := 27, descriptorIndex := 21, attributes := #[] }, { accessFlags := 18, nameIndex := 30, descriptorIndex := 21, attributes := #[] }])
  fields := #[{ name := "x", type := .int, accessFlags := 18, slot := 0, constantValue := 0 }, { name := "y", type := .int, accessFlags := 18, slot := 1, constantValue := 0 }, { name := "width", type := .int, accessFlags := 18, slot := 2, constantValue := 0 }, { name := "height", type := .int, accessFlags := 18, slot := 3, constantValue := 0 }]
  methods := #[k3m0, k3m1, k3m2, k3m3, k3m4, k3m5]
  instanceTypes := #[.int, .int, .int, .int]
  staticTypes := #[]
  resolved := Array.replicate 89 none
  statics := none }

def pool4 : Array CpInfo := pool [(1, .methodref 2 3), (0, .class_ 4), (0, .nameAndType 5 6), (0, u "java/lang/Record"), (0, u "<init>"), (0, u "()V"), (9, .fieldref 17 18), (0, .class_ 19), (0, .nameAndType 20 21), (0, u "com/example/cropmark/cropmark/iiif/Dimensions"), (0, u "width"), (0, u "I"), (0, .fieldref 17 23), (0, .nameAndType 24 21), (0, u "height"), (12, u "(II)V"), (5, u "()I")] 30

def k4c0 : Code := { maxStack := 4, maxLocals := 3, code := prog_3_method_1_code, exceptionTable := #[], attributes := #[] }
def k4m0 : Method := { name := "<init>", desc := "(II)V", sig := { parameters := [.int, .int], returnType := none }, accessFlags := 1, code := some k4c0 }
def k4c1 : Code := { maxStack := 1, maxLocals := 1, code := prog_3_method_5_code, exceptionTable := #[], attributes := #[] }
def k4m1 : Method := { name := "width", desc := "()I", sig := { parameters := [], returnType := some .int }, accessFlags := 1, code := some k4c1 }
def k4c2 : Code := { maxStack := 1, maxLocals := 1, code := prog_3_method_6_code, exceptionTable := #[], attributes := #[] }
def k4m2 : Method := { name := "height", desc := "()I", sig := { parameters := [], returnType := some .int }, accessFlags := 1, code := some k4c2 }
/-- com/example/cropmark/cropmark/iiif/Dimensions -/
def k4 : Class := { plain "com/example/cropmark/cropmark/iiif/Dimensions" (some 2) with
  accessFlags := 49
  interfaces := #[]
  cf := some (fileOf pool4 17 #[] #[{ accessFlags := 1, nameIndex := 5, descriptorIndex := 37, attributes := #[] }, { accessFlags := 1, nameIndex := 20, descriptorIndex := 43, attributes := #[] }, { accessFlags := 1, nameIndex := 24, descriptorIndex := 43, attributes := #[] }] 49 2 #[] #[{ accessFlags := 18, nameIndex := 20, descriptorIndex := 21, attributes := #[] }, { accessFlags := 18, nameIndex := 24, descriptorIndex := 21, attributes := #[] }])
  fields := #[{ name := "width", type := .int, accessFlags := 18, slot := 0, constantValue := 0 }, { name := "height", type := .int, accessFlags := 18, slot := 1, constantValue := 0 }]
  methods := #[k4m0, k4m1, k4m2]
  instanceTypes := #[.int, .int]
  staticTypes := #[]
  resolved := Array.replicate 74 none
  statics := none }

def pool5 : Array CpInfo := pool [(1, u "java/lang/Cloneable"), (0, .class_ 1), (0, u "java/lang/Object"), (0, .class_ 3)] 3

/-- java/lang/Cloneable -/
def k5 : Class := { plain "java/lang/Cloneable" (some 0) with
  accessFlags := 1537
  interfaces := #[]
  cf := some (fileOf pool5 2 #[] #[] 1537 4 #[] #[])
  fields := #[]
  methods := #[]
  instanceTypes := #[]
  staticTypes := #[]
  resolved := Array.replicate 8 none
  statics := none }

def pool6 : Array CpInfo := pool [(1, u "java/io/Serializable"), (0, .class_ 1), (0, u "java/lang/Object"), (0, .class_ 3)] 3

/-- java/io/Serializable -/
def k6 : Class := { plain "java/io/Serializable" (some 0) with
  accessFlags := 1537
  interfaces := #[]
  cf := some (fileOf pool6 2 #[] #[] 1537 4 #[] #[])
  fields := #[]
  methods := #[]
  instanceTypes := #[]
  staticTypes := #[]
  resolved := Array.replicate 8 none
  statics := none }

/-- the primitive byte -/
def k7 : Class := { plain "byte" none with kind := .primitive 'B', accessFlags := 0x411 }
/-- [B -/
def k8 : Class := { plain "[B" (some 0) with kind := .array 7 .byte, interfaces := #[5, 6], accessFlags := 1041 }

/-- the primitive int -/
def k9 : Class := { plain "int" none with kind := .primitive 'I', accessFlags := 0x411 }
/-- [I -/
def k10 : Class := { plain "[I" (some 0) with kind := .array 9 .int, interfaces := #[5, 6], accessFlags := 1041 }

def heap : Heap := #[]
def classes : Array Class := #[k0, k1, k2, k3, k4, k5, k6, k7, k8, k9, k10]
def interned : List (Array UInt16 × Addr) := []
def slotsUsed : Nat := 0
def theMethod : MethodId := ⟨1, 1⟩
def args0 : Array Value := #[.int 5, .int 300, .int 7, .int 10]
def aboutOver (below : List Frame) : State where
  vm := { classes := classes, interned := interned.toArray }
  heap := heap
  slotsUsed := slotsUsed
  threads := #[{ frames := .invoking theMethod args0 :: below }]
def below0 : List Frame := [.native { method := ⟨0, 0⟩, args := #[] }]
def about1 : State := aboutOver below0
def p0 : Program := .bare "" "" ""
def e0 : Env := launch0.env 0 0 0
theorem w_frames : about1.frames = Frame.invoking theMethod args0 :: below0 := rfl
set_option maxRecDepth 65536 in
theorem w_args : argsFit about1.vm theMethod args0 = true := by decide +kernel
set_option maxRecDepth 65536 in
theorem w_heap : heapFits about1 = true := by decide +kernel
set_option maxRecDepth 65536 in
theorem w_runnable : about1.curStatus? = some .runnable := by decide +kernel
set_option maxRecDepth 65536 in
theorem w_alone : about1.alone = true := by decide +kernel
set_option maxRecDepth 65536 in
theorem w_named : about1.methodNamed? x = some theMethod := by decide +kernel
set_option maxRecDepth 65536 in
theorem w_hears : about1.hears theMethod below0 = true := by decide +kernel
set_option maxRecDepth 65536 in
theorem w_ripe : about1.ripe theMethod args0 below0 = true := by decide +kernel
theorem w_running : about1.status = .running := rfl
set_option maxRecDepth 65536 in
theorem w_room : about1.hasRoom e0.platform room_1 = true :=
  launch0.hasRoom_least _ room_1 (by decide +kernel) (by decide +kernel) (by decide +kernel) (by decide +kernel) (by decide +kernel) (by decide +kernel)
theorem allAtoms_all (ts : List Jvm.Cond) (a : Array Jvm.Value) (st : Jvm.State) : (allAtoms ts).before a st = ts.all (fun c => c.before a st) := by
  induction ts with
  | nil => rfl
  | cons c t ih =>
    show (Jvm.Cond.and c (allAtoms t)).before a st = _
    rw [Jvm.Cond.before_and, ih, List.all_cons]
def words1 : List Jvm.Cond := Jvm.Cond.code x code maxLocals ret :: tables_1
/-- a 'code' word, met by the world's own term for the bytes: nothing is compared byte by byte -/
theorem code_word {y : MethodName} {bytes : ByteArray} {mx : Nat} {rt : Option FieldType} {a : Array Value} {s : State} {m : MethodId} {meth : Method} {c : Code} (h1 : s.methodNamed? y = some m) (h2 : s.vm.method? m = some meth) (h3 : meth.code = some c) (h4 : c.code = bytes)
    (h5 : (c.maxLocals == mx && c.exceptionTable.isEmpty && decide (c.maxStack ≤ mostOperands) && decide (meth.sig.returnType = rt) && !meth.locks && decide (parseMethodDescriptor y.desc = some meth.sig)) = true) : (Jvm.Cond.code y bytes mx rt).before a s = true := by
  simp only [Bool.and_eq_true, beq_iff_eq, Bool.not_eq_true', decide_eq_true_eq] at h5
  obtain ⟨⟨⟨⟨⟨g1, g2⟩, g3⟩, g4⟩, g5⟩, g6⟩ := h5
  simp [Cond.before, Cond.holds, Cond.value, h1, h2, h3, h4, g1, g2, g3, g4, g5, g6]
def isCode : Jvm.Cond → Bool
  | .code _ _ _ _ => true
  | _ => false
theorem all_split {L : List Jvm.Cond} {P : Jvm.Cond → Bool} (h1 : L.all (fun c => isCode c || P c) = true) (h2 : ∀ c ∈ L.filter isCode, P c = true) : L.all P = true := by
  refine List.all_eq_true.mpr fun c hc => ?_
  have h := List.all_eq_true.mp h1 c hc
  rcases Bool.eq_false_or_eq_true (isCode c) with hi | hi
  · exact h2 c (List.mem_filter.mpr ⟨hc, hi⟩)
  · simpa [hi] using h
set_option maxRecDepth 65536 in
theorem w_c0 : (Jvm.Cond.code x code maxLocals ret).before args0 about1 = true := code_word (m := ⟨1, 1⟩) (meth := k1m1) (c := k1c1) (by decide +kernel) rfl rfl rfl (by decide +kernel)
set_option maxRecDepth 65536 in
theorem w_c1 : (Jvm.Cond.code ({ cls := "com/example/cropmark/cropmark/iiif/PixelRegion", name := "<init>", desc := "(IIII)V" } : Jvm.MethodName) prog_11_method_1_code (5 : Nat) (Option.none : Option Jvm.ClassFile.FieldType)).before args0 about1 = true := code_word (m := ⟨3, 0⟩) (meth := k3m0) (c := k3c0) (by decide +kernel) rfl rfl rfl (by decide +kernel)
set_option maxRecDepth 65536 in
theorem w_c2 : (Jvm.Cond.code ({ cls := "java/lang/Record", name := "<init>", desc := "()V" } : Jvm.MethodName) jdk_30_method_1_code (1 : Nat) (Option.none : Option Jvm.ClassFile.FieldType)).before args0 about1 = true := code_word (m := ⟨2, 0⟩) (meth := k2m0) (c := k2c0) (by decide +kernel) rfl rfl rfl (by decide +kernel)
set_option maxRecDepth 65536 in
theorem w_c3 : (Jvm.Cond.code ({ cls := "java/lang/Object", name := "<init>", desc := "()V" } : Jvm.MethodName) object_method_1_code (1 : Nat) (Option.none : Option Jvm.ClassFile.FieldType)).before args0 about1 = true := code_word (m := ⟨0, 0⟩) (meth := k0m0) (c := k0c0) (by decide +kernel) rfl rfl rfl (by decide +kernel)
set_option maxRecDepth 65536 in
theorem w_c4 : (Jvm.Cond.code ({ cls := "com/example/cropmark/cropmark/iiif/PixelRegion", name := "dimensions", desc := "()Lcom/example/cropmark/cropmark/iiif/Dimensions;" } : Jvm.MethodName) prog_11_method_2_code (1 : Nat) (Option.some (Jvm.ClassFile.FieldType.object "com/example/cropmark/cropmark/iiif/Dimensions"))).before args0 about1 = true := code_word (m := ⟨3, 1⟩) (meth := k3m1) (c := k3c1) (by decide +kernel) rfl rfl rfl (by decide +kernel)
set_option maxRecDepth 65536 in
theorem w_c5 : (Jvm.Cond.code ({ cls := "com/example/cropmark/cropmark/iiif/Dimensions", name := "<init>", desc := "(II)V" } : Jvm.MethodName) prog_3_method_1_code (3 : Nat) (Option.none : Option Jvm.ClassFile.FieldType)).before args0 about1 = true := code_word (m := ⟨4, 0⟩) (meth := k4m0) (c := k4c0) (by decide +kernel) rfl rfl rfl (by decide +kernel)
set_option maxRecDepth 65536 in
theorem w_c6 : (Jvm.Cond.code ({ cls := "com/example/cropmark/cropmark/iiif/Dimensions", name := "width", desc := "()I" } : Jvm.MethodName) prog_3_method_5_code (1 : Nat) (Option.some Jvm.ClassFile.FieldType.int)).before args0 about1 = true := code_word (m := ⟨4, 1⟩) (meth := k4m1) (c := k4c1) (by decide +kernel) rfl rfl rfl (by decide +kernel)
set_option maxRecDepth 65536 in
theorem w_c7 : (Jvm.Cond.code ({ cls := "com/example/cropmark/cropmark/iiif/Dimensions", name := "height", desc := "()I" } : Jvm.MethodName) prog_3_method_6_code (1 : Nat) (Option.some Jvm.ClassFile.FieldType.int)).before args0 about1 = true := code_word (m := ⟨4, 2⟩) (meth := k4m2) (c := k4c2) (by decide +kernel) rfl rfl rfl (by decide +kernel)
set_option maxRecDepth 65536 in
theorem w_c8 : (Jvm.Cond.code ({ cls := "com/example/cropmark/cropmark/iiif/PixelRegion", name := "x", desc := "()I" } : Jvm.MethodName) prog_11_method_6_code (1 : Nat) (Option.some Jvm.ClassFile.FieldType.int)).before args0 about1 = true := code_word (m := ⟨3, 2⟩) (meth := k3m2) (c := k3c2) (by decide +kernel) rfl rfl rfl (by decide +kernel)
set_option maxRecDepth 65536 in
theorem w_c9 : (Jvm.Cond.code ({ cls := "com/example/cropmark/cropmark/iiif/PixelRegion", name := "y", desc := "()I" } : Jvm.MethodName) prog_11_method_7_code (1 : Nat) (Option.some Jvm.ClassFile.FieldType.int)).before args0 about1 = true := code_word (m := ⟨3, 3⟩) (meth := k3m3) (c := k3c3) (by decide +kernel) rfl rfl rfl (by decide +kernel)
set_option maxRecDepth 65536 in
theorem w_c10 : (Jvm.Cond.code ({ cls := "com/example/cropmark/cropmark/iiif/PixelRegion", name := "width", desc := "()I" } : Jvm.MethodName) prog_11_method_8_code (1 : Nat) (Option.some Jvm.ClassFile.FieldType.int)).before args0 about1 = true := code_word (m := ⟨3, 4⟩) (meth := k3m4) (c := k3c4) (by decide +kernel) rfl rfl rfl (by decide +kernel)
set_option maxRecDepth 65536 in
theorem w_c11 : (Jvm.Cond.code ({ cls := "com/example/cropmark/cropmark/iiif/PixelRegion", name := "height", desc := "()I" } : Jvm.MethodName) prog_11_method_9_code (1 : Nat) (Option.some Jvm.ClassFile.FieldType.int)).before args0 about1 = true := code_word (m := ⟨3, 5⟩) (meth := k3m5) (c := k3c5) (by decide +kernel) rfl rfl rfl (by decide +kernel)
def codes1 : List Jvm.Cond := [Jvm.Cond.code x code maxLocals ret, Jvm.Cond.code ({ cls := "com/example/cropmark/cropmark/iiif/PixelRegion", name := "<init>", desc := "(IIII)V" } : Jvm.MethodName) prog_11_method_1_code (5 : Nat) (Option.none : Option Jvm.ClassFile.FieldType), Jvm.Cond.code ({ cls := "java/lang/Record", name := "<init>", desc := "()V" } : Jvm.MethodName) jdk_30_method_1_code (1 : Nat) (Option.none : Option Jvm.ClassFile.FieldType), Jvm.Cond.code ({ cls := "java/lang/Object", name := "<init>", desc := "()V" } : Jvm.MethodName) object_method_1_code (1 : Nat) (Option.none : Option Jvm.ClassFile.FieldType), Jvm.Cond.code ({ cls := "com/example/cropmark/cropmark/iiif/PixelRegion", name := "dimensions", desc := "()Lcom/example/cropmark/cropmark/iiif/Dimensions;" } : Jvm.MethodName) prog_11_method_2_code (1 : Nat) (Option.some (Jvm.ClassFile.FieldType.object "com/example/cropmark/cropmark/iiif/Dimensions")), Jvm.Cond.code ({ cls := "com/example/cropmark/cropmark/iiif/Dimensions", name := "<init>", desc := "(II)V" } : Jvm.MethodName) prog_3_method_1_code (3 : Nat) (Option.none : Option Jvm.ClassFile.FieldType), Jvm.Cond.code ({ cls := "com/example/cropmark/cropmark/iiif/Dimensions", name := "width", desc := "()I" } : Jvm.MethodName) prog_3_method_5_code (1 : Nat) (Option.some Jvm.ClassFile.FieldType.int), Jvm.Cond.code ({ cls := "com/example/cropmark/cropmark/iiif/Dimensions", name := "height", desc := "()I" } : Jvm.MethodName) prog_3_method_6_code (1 : Nat) (Option.some Jvm.ClassFile.FieldType.int), Jvm.Cond.code ({ cls := "com/example/cropmark/cropmark/iiif/PixelRegion", name := "x", desc := "()I" } : Jvm.MethodName) prog_11_method_6_code (1 : Nat) (Option.some Jvm.ClassFile.FieldType.int), Jvm.Cond.code ({ cls := "com/example/cropmark/cropmark/iiif/PixelRegion", name := "y", desc := "()I" } : Jvm.MethodName) prog_11_method_7_code (1 : Nat) (Option.some Jvm.ClassFile.FieldType.int), Jvm.Cond.code ({ cls := "com/example/cropmark/cropmark/iiif/PixelRegion", name := "width", desc := "()I" } : Jvm.MethodName) prog_11_method_8_code (1 : Nat) (Option.some Jvm.ClassFile.FieldType.int), Jvm.Cond.code ({ cls := "com/example/cropmark/cropmark/iiif/PixelRegion", name := "height", desc := "()I" } : Jvm.MethodName) prog_11_method_9_code (1 : Nat) (Option.some Jvm.ClassFile.FieldType.int)]
set_option maxRecDepth 65536 in
theorem codes_eq : words1.filter isCode = codes1 := rfl
theorem w_codes : ∀ c ∈ words1.filter isCode, c.before args0 about1 = true := by
  rw [codes_eq]
  intro c hc
  simp only [codes1, List.mem_cons, List.not_mem_nil, or_false] at hc
  rcases hc with rfl | rfl | rfl | rfl | rfl | rfl | rfl | rfl | rfl | rfl | rfl | rfl
  · exact w_c0
  · exact w_c1
  · exact w_c2
  · exact w_c3
  · exact w_c4
  · exact w_c5
  · exact w_c6
  · exact w_c7
  · exact w_c8
  · exact w_c9
  · exact w_c10
  · exact w_c11
set_option maxRecDepth 65536 in
theorem w_t1 : (words1.take 24).all (fun c => isCode c || c.before args0 about1) = true := by decide +kernel
set_option maxRecDepth 65536 in
theorem w_t2 : ((words1.drop 24).take 24).all (fun c => isCode c || c.before args0 about1) = true := by decide +kernel
set_option maxRecDepth 65536 in
theorem w_t3 : ((words1.drop 24).drop 24).all (fun c => isCode c || c.before args0 about1) = true := by decide +kernel
theorem w_tables : (allAtoms (Jvm.Cond.code x code maxLocals ret :: tables_1)).before args0 about1 = true := by
  rw [allAtoms_all]
  show words1.all (fun c => c.before args0 about1) = true
  refine all_split ?_ w_codes
  rw [← List.take_append_drop 24 words1, List.all_append, w_t1, ← List.take_append_drop 24 (words1.drop 24), List.all_append, w_t2, w_t3]
  rfl
set_option maxRecDepth 65536 in
theorem w_case : (Jvm.Cond.and given_1 narrow_1).before args0 about1 = true := by decide +kernel
theorem w_applies : (headSpec (Jvm.Cond.code x code maxLocals ret :: tables_1) room_1).applies x e0.platform about1 = true :=
  (Spec.applies_iff w_frames).mpr ⟨w_running, w_runnable, w_alone, w_named, w_hears, w_ripe, w_room, w_tables⟩
theorem atStart : AtStart classFile x code maxLocals ret World_1 tables_1 room_1 Calls_1 rest_1 Pre_1 launch0 p0 e0 about1 theMethod args0 below0 :=
  ⟨lists_1, trivial, launch0.admits_env _ _ _, launch0.least_env, fairChoices_fair.cas, fairChoices_fair.clock, w_frames, w_args, w_heap, w_applies, trivial, trivial, w_case⟩
end start1
theorem witness_1 : WitnessClaimed_1 := ⟨start1.p0, start1.e0, start1.about1, start1.theMethod, start1.args0, start1.below0, start1.atStart⟩
end Jvm.Pilot.@@N@@

import JvmDerived
import JvmDerived.Pilot.@@N@@Statement
import JvmDerived.Pilot.@@N@@Code
set_option linter.unusedVariables false
set_option linter.unusedSimpArgs false
namespace Jvm.Pilot.@@N@@
open Jvm Jvm.ClassFile Sem Op Lib Jvm.Free Jvm.Stand Jvm.LawKit Jvm.RoadKit Bundle Jvm.Pilot.@@N@@.Jvm.D
def Go (p : Program) (e : Env) (below : List Frame) (s : State) (Q : Option Value → Heap → List Loc → Prop) (C S : Nat) (V : State) : Prop :=
  ∃ (U : State) (o : Outcome), Steps p.tables e below V U ∧ U.status = .running ∧ Ended U below o ∧ ∃ v L, o = .returned v ∧ Q v U.heap L ∧ FrameEnd s o U L C S
def Ga (p : Program) (e : Env) (below : List Frame) (s : State) (Q : Option Value → Heap → List Loc → Prop) (C S : Nat) (T : State) (m : MethodId) (pc : Nat) (Ls : Array Slot) (st : List Value) : Prop :=
  Go p e below s Q C S (T.setTop (mkF m pc Ls st))
abbrev Ct (l : Launch) (Z : State) (y : MethodName) (bytes : ByteArray) (maxL : Nat) (ret : Option FieldType) (ws : List Jvm.Cond) (rm : Room) (as' : Array Value) (h0 : Heap) (Q : Option Value → Heap → List Loc → Prop) : Prop :=
  MetFree l y (head1 (Jvm.Cond.code y bytes maxL ret :: ws) rm) (fun a U => a = as' ∧ Z.Warmed39 U.vm ∧ U.heap = h0) (fun _ _ _ _ _ => True) (fun _ U o U' => ∃ v L, o = .returned v ∧ Q v U'.heap L ∧ FrameEnd U o U' L rm.cells rm.slots)
section GoKit
variable {p : Program} {l : Launch} {e : Env} {R : Room} {s : State} {m : MethodId} {args : Array Value} {below : List Frame} {meth : Method} {c : Code} {T T' : State} {locs : List Loc} {cells slots : Nat} {Q : Option Value → Heap → List Loc → Prop} {C S : Nat} {Z : State} {a0 : Array Value} {h : Heap} {pc q pc' : Nat} {Ls Ls' : Array Slot} {st st' : List Value} {own : String}
theorem Ga.stp (k : ∀ t, Steps p.tables e below (T'.setTop (mkF m pc' Ls' st')) t → Steps p.tables e below (T.setTop (mkF m pc Ls st)) t) (g : Ga p e below s Q C S T' m pc' Ls' st') : Ga p e below s Q C S T m pc Ls st := by
  obtain ⟨U, o, h, r⟩ := g
  exact ⟨U, o, k _ h, r⟩
theorem own_body {y : MethodName} {bytes : ByteArray} {maxL : Nat} {ret : Option FieldType} {ws : List Jvm.Cond} {rm : Room} {h0 : Heap} {as' : Array Value} (hpl : plainFor y = true) (hef : ∀ m, entryFrame m as' maxL = mkF m 0 Ls [])
    (body : ∀ (p : Program) (e : Env) (s : State) (m : MethodId) (below : List Frame) (meth : Method) (c : Code) (T : State), p.tables.exec = Jvm.exec → c.code = bytes → c.maxLocals = maxL → Z.Warmed39 s.vm → s.vm.findClass y.cls = some m.cls → meth.name = y.name → meth.sig.returnType = ret → meth.locks = false →
      Stand p l e rm s m as' below meth c T [] 0 0 → T.heap = h0 → Ga p e below s Q rm.cells rm.slots T m 0 Ls []) : Ct l Z y bytes maxL ret ws rm as' h0 Q := by
  refine MetFree.of_bodySF hpl hisR ?_
  intro p e s m args below meth c s₁ Bd hml0 hP hK
  obtain ⟨rfl, hZ, hh⟩ := hP
  have X0 : Stand p l e rm s m args below meth c s₁ [] 0 0 := Stand.of_body Bd
  have e0 : s₁.heap = h0 := by rw [← hh, Bd.state]; rfl
  obtain ⟨U, o, g1, g2⟩ := body p e s m below meth c s₁ Bd.exec Bd.bytes hml0 hZ (findClass_of_methodNamed Bd.named) (name_of_methodNamed Bd.named Bd.method).1 Bd.returns (BodyLoose.notSynchronized Bd) X0 e0
  exact ⟨U, o, castTop (hef m) g1, g2⟩
theorem Ga.out (X : Stand p l e R s m args below meth c T locs cells slots) {v : Option Value} (hlk : meth.locks = false) (hv : meth.sig.returnType = none → v = none) (hc : cells ≤ C) (hs : slots ≤ S) (hq : Q v T.heap locs)
    (k : ∀ fs, (∀ (f : JFrame) (acts : List Action), f.method = m → f.locked = none → f.entered = [] → (doReturn e (T.setTop f) acts v).1 = T.setFrames fs) → Steps p.tables e below (T.setTop (mkF m pc Ls st)) (T.setFrames fs)) : Ga p e below s Q C S T m pc Ls st := by
  obtain ⟨fs, hr, hrun, hended, hW, hsame⟩ := X.leave (v := v) hv hlk
  exact ⟨_, _, k fs hr, hrun, hended, _, _, rfl, hq, ⟨_, rfl⟩, hW, hsame.mono hc hs⟩
theorem g_iloadN (X : Stand p l e R s m args below meth c T locs cells slots) (hx : p.tables.exec = Jvm.exec) {k : Fin 4} {v : Int32} (hd : decode c.code pc = .ok (.iload_n k, 1)) (hp : pc + 1 = q) (hl : Ls[k.val]? = some (.val (.int v))) (g : Ga p e below s Q C S T m q Ls (.int v :: st)) : Ga p e below s Q C S T m pc Ls st := by
  subst hp
  exact Ga.stp (fun _ k => XS.iloadN X.here hx rfl hd hl k) g
theorem g_iload (X : Stand p l e R s m args below meth c T locs cells slots) (hx : p.tables.exec = Jvm.exec) {k : Nat} {v : Int32} (hd : decode c.code pc = .ok (.iload k, 2)) (hp : pc + 2 = q) (hl : Ls[k]? = some (.val (.int v))) (g : Ga p e below s Q C S T m q Ls (.int v :: st)) : Ga p e below s Q C S T m pc Ls st := by
  subst hp
  exact Ga.stp (fun _ k => XS.iload X.here hx rfl hd hl k) g
theorem g_aloadN (X : Stand p l e R s m args below meth c T locs cells slots) (hx : p.tables.exec = Jvm.exec) {k : Fin 4} {v : Value} (hd : decode c.code pc = .ok (.aload_n k, 1)) (hp : pc + 1 = q) (hl : Ls[k.val]? = some (.val v)) (hv : v.isRef = true) (g : Ga p e below s Q C S T m q Ls (v :: st)) : Ga p e below s Q C S T m pc Ls st := by
  subst hp
  exact Ga.stp (fun _ k => XS.aloadN X.here hx rfl hd hl hv k) g
theorem g_aload (X : Stand p l e R s m args below meth c T locs cells slots) (hx : p.tables.exec = Jvm.exec) {k : Nat} {v : Value} (hd : decode c.code pc = .ok (.aload k, 2)) (hp : pc + 2 = q) (hl : Ls[k]? = some (.val v)) (hv : v.isRef = true) (g : Ga p e below s Q C S T m q Ls (v :: st)) : Ga p e below s Q C S T m pc Ls st := by
  subst hp
  exact Ga.stp (fun _ k => XS.aload X.here hx rfl hd hl hv k) g
theorem g_istoreN (X : Stand p l e R s m args below meth c T locs cells slots) (hx : p.tables.exec = Jvm.exec) {k : Fin 4} {x : Int32} (hd : decode c.code pc = .ok (.istore_n k, 1)) (hp : pc + 1 = q) (hl : storeLocals Ls k.val (.int x) = some Ls') (g : Ga p e below s Q C S T m q Ls' st) : Ga p e below s Q C S T m pc Ls (.int x :: st) := by
  subst hp
  exact Ga.stp (fun _ k => XS.istoreN X.here hx rfl hd rfl hl k) g
theorem g_istore (X : Stand p l e R s m args below meth c T locs cells slots) (hx : p.tables.exec = Jvm.exec) {k : Nat} {x : Int32} (hd : decode c.code pc = .ok (.istore k, 2)) (hp : pc + 2 = q) (hl : storeLocals Ls k (.int x) = some Ls') (g : Ga p e below s Q C S T m q Ls' st) : Ga p e below s Q C S T m pc Ls (.int x :: st) := by
  subst hp
  exact Ga.stp (fun _ k => XS.istore X.here hx rfl hd rfl hl k) g
theorem g_astore (X : Stand p l e R s m args below meth c T locs cells slots) (hx : p.tables.exec = Jvm.exec) {k : Nat} {x : Value} (hd : decode c.code pc = .ok (.astore k, 2)) (hp : pc + 2 = q) (hv : x.isRef = true) (hl : storeLocals Ls k x = some Ls') (g : Ga p e below s Q C S T m q Ls' st) : Ga p e below s Q C S T m pc Ls (x :: st) := by
  subst hp
  exact Ga.stp (fun _ k => XS.astore X.here hx rfl hd rfl hv hl k) g
theorem g_iconst (X : Stand p l e R s m args below meth c T locs cells slots) (hx : p.tables.exec = Jvm.exec) {i : Int} {r : Int32} (hd : decode c.code pc = .ok (.iconst i, 1)) (hp : pc + 1 = q) (hr : Int32.ofInt i = r) (g : Ga p e below s Q C S T m q Ls (.int r :: st)) : Ga p e below s Q C S T m pc Ls st := by
  subst hp hr
  exact Ga.stp (fun _ k => XS.iconst X.here hx rfl hd k) g
theorem g_bipush (X : Stand p l e R s m args below meth c T locs cells slots) (hx : p.tables.exec = Jvm.exec) {i : Int} {r : Int32} (hd : decode c.code pc = .ok (.bipush i, 2)) (hp : pc + 2 = q) (hr : (Int8.ofInt i).toInt32 = r) (g : Ga p e below s Q C S T m q Ls (.int r :: st)) : Ga p e below s Q C S T m pc Ls st := by
  subst hp hr
  exact Ga.stp (fun _ k => XS.bipush X.here hx rfl hd k) g
theorem g_iand (X : Stand p l e R s m args below meth c T locs cells slots) (hx : p.tables.exec = Jvm.exec) {x y r : Int32} (hd : decode c.code pc = .ok (.iand, 1)) (hp : pc + 1 = q) (hr : x &&& y = r) (g : Ga p e below s Q C S T m q Ls (.int r :: st)) : Ga p e below s Q C S T m pc Ls (.int y :: .int x :: st) := by
  subst hp hr
  exact Ga.stp (fun _ k => XS.iand X.here hx rfl hd rfl k) g
theorem g_irem (X : Stand p l e R s m args below meth c T locs cells slots) (hx : p.tables.exec = Jvm.exec) {x y r : Int32} (hd : decode c.code pc = .ok (.irem, 1)) (hp : pc + 1 = q) (hy : y ≠ 0) (hr : x % y = r) (g : Ga p e below s Q C S T m q Ls (.int r :: st)) : Ga p e below s Q C S T m pc Ls (.int y :: .int x :: st) := by
  subst hp hr
  exact Ga.stp (fun _ k => iremM X hx (g := mkF m pc Ls (.int y :: .int x :: st)) rfl hd rfl hy k) g
theorem g_dup (X : Stand p l e R s m args below meth c T locs cells slots) (hx : p.tables.exec = Jvm.exec) {x : Value} (hd : decode c.code pc = .ok (.dup, 1)) (hp : pc + 1 = q) (hc : x.category = 1) (g : Ga p e below s Q C S T m q Ls (x :: x :: st)) : Ga p e below s Q C S T m pc Ls (x :: st) := by
  subst hp
  exact Ga.stp (fun _ k => XS.dup X.here hx rfl hd rfl hc k) g
theorem g_iinc (X : Stand p l e R s m args below meth c T locs cells slots) (hx : p.tables.exec = Jvm.exec) {k : Nat} {cst : Int} {x r : Int32} (hd : decode c.code pc = .ok (.iinc k cst, 3)) (hp : pc + 3 = q) (hl : Ls[k]? = some (.val (.int x))) (hr : x + Int32.ofInt cst = r) (hl' : storeLocals Ls k (.int r) = some Ls') (g : Ga p e below s Q C S T m q Ls' st) : Ga p e below s Q C S T m pc Ls st := by
  subst hp hr
  exact Ga.stp (fun _ k => XS.iinc X.here hx rfl hd hl hl' k) g
theorem g_goto (X : Stand p l e R s m args below meth c T locs cells slots) (hx : p.tables.exec = Jvm.exec) {o : Int} (hd : decode c.code pc = .ok (.goto o, 3)) (ho : 0 ≤ (pc : Int) + o) (hp : ((pc : Int) + o).toNat = q) (g : Ga p e below s Q C S T m q Ls st) : Ga p e below s Q C S T m pc Ls st :=
  Ga.stp (fun _ k => XS.goto X.here hx rfl rfl hd ho hp k) g
theorem g_ifY (X : Stand p l e R s m args below meth c T locs cells slots) (hx : p.tables.exec = Jvm.exec) {cd : ClassFile.Cond} {x : Int32} {o : Int} (hd : decode c.code pc = .ok (.ifCond cd o, 3)) (hc : ifCond.holds cd x = true) (ho : 0 ≤ (pc : Int) + o) (hp : ((pc : Int) + o).toNat = q) (g : Ga p e below s Q C S T m q Ls st) : Ga p e below s Q C S T m pc Ls (.int x :: st) :=
  Ga.stp (fun _ k => XS.ifYes X.here hx rfl rfl hd rfl hc ho hp k) g
theorem g_ifN (X : Stand p l e R s m args below meth c T locs cells slots) (hx : p.tables.exec = Jvm.exec) {cd : ClassFile.Cond} {x : Int32} {o : Int} (hd : decode c.code pc = .ok (.ifCond cd o, 3)) (hp : pc + 3 = q) (hc : ifCond.holds cd x = false) (g : Ga p e below s Q C S T m q Ls st) : Ga p e below s Q C S T m pc Ls (.int x :: st) := by
  subst hp
  exact Ga.stp (fun _ k => XS.ifNo X.here hx rfl hd rfl hc k) g
theorem g_icmpY (X : Stand p l e R s m args below meth c T locs cells slots) (hx : p.tables.exec = Jvm.exec) {cd : ClassFile.Cond} {x y : Int32} {o : Int} (hd : decode c.code pc = .ok (.if_icmp cd o, 3)) (hc : if_icmp.holds cd x y = true) (ho : 0 ≤ (pc : Int) + o) (hp : ((pc : Int) + o).toNat = q) (g : Ga p e below s Q C S T m q Ls st) : Ga p e below s Q C S T m pc Ls (.int y :: .int x :: st) :=
  Ga.stp (fun _ k => XS.icmpYes X.here hx rfl rfl hd rfl hc ho hp k) g
theorem g_icmpN (X : Stand p l e R s m args below meth c T locs cells slots) (hx : p.tables.exec = Jvm.exec) {cd : ClassFile.Cond} {x y : Int32} {o : Int} (hd : decode c.code pc = .ok (.if_icmp cd o, 3)) (hp : pc + 3 = q) (hc : if_icmp.holds cd x y = false) (g : Ga p e below s Q C S T m q Ls st) : Ga p e below s Q C S T m pc Ls (.int y :: .int x :: st) := by
  subst hp
  exact Ga.stp (fun _ k => XS.icmpNo X.here hx rfl hd rfl hc k) g
theorem g_retI (X : Stand p l e R s m args below meth c T locs cells slots) (hx : p.tables.exec = Jvm.exec) {z : Int32} (hret : meth.sig.returnType = some .int) (hlk : meth.locks = false) (hd : decode c.code pc = .ok (.ireturn, 1)) (hc : cells ≤ C) (hs : slots ≤ S) (hq : Q (some (.int z)) T.heap locs) : Ga p e below s Q C S T m pc Ls (.int z :: st) :=
  Ga.out X hlk (fun h => by rw [hret] at h; cases h) hc hs hq fun fs hr => retOut X hx hret rfl (Or.inl ⟨rfl, Or.inl rfl, z, rfl⟩) hd hr
theorem g_retN (X : Stand p l e R s m args below meth c T locs cells slots) (hx : p.tables.exec = Jvm.exec) {z r : Int32} {t : FieldType} (hret : meth.sig.returnType = some t) (ht : t = .boolean ∨ t = .byte ∨ t = .char ∨ t = .short) (hlk : meth.locks = false) (hd : decode c.code pc = .ok (.ireturn, 1)) (hr : nar t z = r) (hc : cells ≤ C) (hs : slots ≤ S) (hq : Q (some (.int r)) T.heap locs) : Ga p e below s Q C S T m pc Ls (.int z :: st) := by
  subst hr
  exact Ga.out X hlk (fun h => by rw [hret] at h; cases h) hc hs hq fun fs hr => retN X hx hret ht hd hr
theorem g_ret (X : Stand p l e R s m args below meth c T locs cells slots) (hx : p.tables.exec = Jvm.exec) (hret : meth.sig.returnType = none) (hlk : meth.locks = false) (hd : decode c.code pc = .ok (.return_, 1)) (hc : cells ≤ C) (hs : slots ≤ S) (hq : Q none T.heap locs) : Ga p e below s Q C S T m pc Ls [] :=
  Ga.out X hlk (fun _ => rfl) hc hs hq fun fs hr => X.returnOut hx hret hd hr
theorem g_ldcI (X : Stand p l e R s m args below meth c T locs cells slots) (hx : p.tables.exec = Jvm.exec) (hZ : Z.Warmed39 s.vm) (hown : s.vm.findClass own = some m.cls) {index : Nat} {v : Int32} (w : (Cond.constant own index v).before a0 Z = true) (hd : decode c.code pc = .ok (.ldc index, 2)) (hp : pc + 2 = q) (g : Ga p e below s Q C S T m q Ls (.int v :: st)) : Ga p e below s Q C S T m pc Ls st := by
  subst hp
  exact Ga.stp (fun t k => X.ldcInt hx hown (mvT hZ w) (g := mkF m pc Ls st) rfl hd t k) g
theorem g_new (X : Stand p l e R s m args below meth c T locs cells slots) (hx : p.tables.exec = Jvm.exec) (hZ : Z.Warmed39 s.vm) (hown : s.vm.findClass own = some m.cls) {K : String} {index n : Nat} (w : (Cond.classLink own index K).before a0 Z = true) (wi : (Cond.instantiable K n).before a0 Z = true) (wz : (Cond.initialized K).before a0 Z = true) (eT : T.heap = h)
    (hd : decode c.code pc = .ok (.new index, 3)) (hp : pc + 3 = q) (hc : cells + 1 ≤ R.cells) (hl : slots + n ≤ R.slots)
    (k : ∀ T' h' b, Stand p l e R s m args below meth c T' locs (cells + 1) (slots + n) → T'.heap = h' → b = h.size → Ext h h' → Exa Z h' b K → (∀ {O nm d : String} {ty : FieldType}, Laid Z a0 K O nm d → parseFieldDescriptor d = some ty → Fld Z h' b O nm d (defaultValue ty)) → Ga p e below s Q C S T' m q Ls (.ref b :: st)) : Ga p e below s Q C S T m pc Ls st := by
  subst hp
  obtain ⟨T', h', X', e', E', A', D', -, sx⟩ := newO X hx hZ hown w wi wz eT (g := mkF m pc Ls st) rfl hd hc hl
  exact Ga.stp sx (k T' h' _ X' e' rfl E' A' D')
theorem g_getF (X : Stand p l e R s m args below meth c T locs cells slots) (hx : p.tables.exec = Jvm.exec) (hZ : Z.Warmed39 s.vm) (hown : s.vm.findClass own = some m.cls) {R0 O n d host : String} {index : Nat} (w : (Cond.fieldLink own index R0 n d).before a0 Z = true ∨ (Cond.fieldLinkNest own index R0 n d host).before a0 Z = true) (via : Via Z R0 O n d) (eT : T.heap = h) {a : Addr} {v : Value} (F : Fld Z h a O n d v)
    (hd : decode c.code pc = .ok (.getfield index, 3)) (hp : pc + 3 = q) (k : ∀ T', Stand p l e R s m args below meth c T' locs cells slots → T'.heap = h → Ga p e below s Q C S T' m q Ls (v :: st)) : Ga p e below s Q C S T m pc Ls (.ref a :: st) := by
  subst hp
  obtain ⟨T', X', e', sx⟩ := getF X hx hZ hown w via eT F (g := mkF m pc Ls (.ref a :: st)) rfl rfl hd
  exact Ga.stp sx (k T' X' e')
theorem g_putF (X : Stand p l e R s m args below meth c T locs cells slots) (hx : p.tables.exec = Jvm.exec) (hZ : Z.Warmed39 s.vm) (hown : s.vm.findClass own = some m.cls) {R0 O n d host K : String} {index kk : Nat} {ty : FieldType} (w : (Cond.fieldLink own index R0 n d).before a0 Z = true ∨ (Cond.fieldLinkNest own index R0 n d host).before a0 Z = true) (via : Via Z R0 O n d) (eT : T.heap = h) {a : Addr} {v old : Value} (F : Fld Z h a O n d old) (E : Exa Z h a K)
    (L : (Cond.lays K O n d).before a0 Z = true ∨ ((Cond.laysFinal K O n d).before a0 Z = true ∧ own = O ∧ meth.name = "<init>")) (wi : (Cond.instantiable K kk).before a0 Z = true) (hty : parseFieldDescriptor d = some ty) (hn : narrow ty v = v) (hf : fits ty v = true)
    (hd : decode c.code pc = .ok (.putfield index, 3)) (hp : pc + 3 = q) (k : ∀ T' h', Stand p l e R s m args below meth c T' (locs ++ [⟨a, Jvm.RoadKit.slotOf Z O n d⟩]) cells slots → T'.heap = h' → Wr h h' a (Jvm.RoadKit.slotOf Z O n d) v → Fld Z h' a O n d v → Ga p e below s Q C S T' m q Ls st) : Ga p e below s Q C S T m pc Ls (v :: .ref a :: st) := by
  subst hp
  obtain ⟨T', h', X', e', W', sx⟩ := putF X hx hZ hown w via eT F E L wi hty hn hf (g := mkF m pc Ls (v :: .ref a :: st)) rfl rfl hd
  exact Ga.stp sx (k T' h' X' e' W' (F.same W'))
theorem g_initO (X : Stand p l e R s m args below meth c T locs cells slots) (hx : p.tables.exec = Jvm.exec) (hZ : Z.Warmed39 s.vm) (hown : s.vm.findClass own = some m.cls) {idx : Nat} (w1 : (Cond.methodLink own idx Lib.objectInit).before a0 Z = true) (w2 : (Cond.instanceMethod Lib.objectInit).before a0 Z = true) (w3 : (Cond.code Lib.objectInit ⟨#[0xb1]⟩ 1 none).before a0 Z = true) (eT : T.heap = h) (hsz : Ls.size = c.maxLocals) {a : Addr}
    (hd : decode c.code pc = .ok (.invokespecial idx, 3)) (hp : pc + 3 = q) (hf : 1 ≤ R.frames) {W : Nat} (hW : (st.map fun v => v.category).sum ≤ W) (hl : W + 12 ≤ R.locals) (k : ∀ T', Stand p l e R s m args below meth c T' locs cells slots → T'.heap = h → Ga p e below s Q C S T' m q Ls st) : Ga p e below s Q C S T m pc Ls (.ref a :: st) := by
  subst hp
  obtain ⟨T', X', e', sx⟩ := initO X hx hZ hown w1 w2 w3 eT (g := mkF m pc Ls (.ref a :: st)) rfl hsz rfl hd hf (W := W) (by show 2 * 0 + _ ≤ _; omega) hl
  exact Ga.stp sx (k T' X' e')
theorem g_static (X : Stand p l e R s m args below meth c T locs cells slots) (hx : p.tables.exec = Jvm.exec) (hZ : Z.Warmed39 s.vm) (hown : s.vm.findClass own = some m.cls) {index : Nat} {y : MethodName} {ret : Option FieldType} {bytes : ByteArray} {maxL : Nat} {rm : Room} {as' : Array Value} {Q' : Option Value → Heap → List Loc → Prop} (w1 : (Cond.methodLink own index y).before a0 Z = true) (w2 : (Cond.static y).before a0 Z = true) (w3 : (Cond.initialized y.cls).before a0 Z = true) (w4 : (Cond.code y bytes maxL ret).before a0 Z = true) (hy : y.cls ≠ "java/lang/invoke/MethodHandle" ∧ y.cls ≠ "java/lang/invoke/VarHandle")
    (hM : Ct l Z y bytes maxL ret [] rm as' h Q') (hsz : Ls.size = c.maxLocals) (eT : T.heap = h) (argsL : List Value) {rest : List Value} (has : as' = argsL.toArray) (hst : st = argsL.reverse ++ rest) {W : Nat} (hW : (rest.map fun v => v.category).sum ≤ W) (hf : rm.frames + 1 ≤ R.frames) (hl : W + (maxL + 11) + rm.locals ≤ R.locals) (hcl : cells + rm.cells ≤ R.cells) (hsl : slots + rm.slots ≤ R.slots) (hlen : ∀ sig, parseMethodDescriptor y.desc = some sig → argsL.length = sig.parameters.length) (hd : decode c.code pc = .ok (.invokestatic index, 3)) (hp : pc + 3 = q) (k : ∀ v T' L, Stand p l e R s m args below meth c T' (locs ++ L) (cells + rm.cells) (slots + rm.slots) → Q' v T'.heap L → Ga p e below s Q C S T' m q Ls (v.toList ++ rest)) : Ga p e below s Q C S T m pc Ls st := by
  subst hp has hst
  obtain ⟨_, _, ⟨T', L', k', n'⟩, -, X', ⟨Lc, hQ', l1, y1, z1⟩, sx⟩ := Jvm.LawKit.callS X hx (y := y) hown (mvT hZ w1) (mvT hZ w2) (mvT hZ w3) (mvT hZ w4) hy (backOf (W := W) hM hZ w4 w3 hf hl) (g := mkF m pc Ls (argsL.reverse ++ rest)) rfl hsz (argsL := argsL) (rest := rest) hlen rfl (by show 2 * 0 + _ ≤ _; omega) hd (fun _ _ => ⟨rfl, eT, hcl, hsl⟩)
  dsimp only [Pt.U, Pt.locs, Pt.cells, Pt.slots] at X' l1 y1 z1 sx hQ'
  subst l1 y1 z1
  exact Ga.stp sx (k _ T' Lc X' hQ')
theorem g_special (X : Stand p l e R s m args below meth c T locs cells slots) (hx : p.tables.exec = Jvm.exec) (hZ : Z.Warmed39 s.vm) (hown : s.vm.findClass own = some m.cls) {index : Nat} {y : MethodName} {bytes : ByteArray} {maxL : Nat} {rm : Room} {as' : Array Value} {Q' : Option Value → Heap → List Loc → Prop} (hy1 : y.name = "<init>") (w1 : (Cond.methodLink own index y).before a0 Z = true) (w2 : (Cond.instanceMethod y).before a0 Z = true) (w3 : (Cond.initialized y.cls).before a0 Z = true) (w4 : (Cond.code y bytes maxL none).before a0 Z = true) (hy : y.cls ≠ "java/lang/invoke/MethodHandle" ∧ y.cls ≠ "java/lang/invoke/VarHandle") {a : Addr}
    (hM : Ct l Z y bytes maxL none [] rm as' h Q') (hsz : Ls.size = c.maxLocals) (eT : T.heap = h) (argsL : List Value) {rest : List Value} (has : as' = (.ref a :: argsL).toArray) (hst : st = argsL.reverse ++ .ref a :: rest) {W : Nat} (hW : (rest.map fun v => v.category).sum ≤ W) (hf : rm.frames + 1 ≤ R.frames) (hl : W + (maxL + 11) + rm.locals ≤ R.locals) (hcl : cells + rm.cells ≤ R.cells) (hsl : slots + rm.slots ≤ R.slots) (hlen : ∀ sig, parseMethodDescriptor y.desc = some sig → argsL.length = sig.parameters.length) (hd : decode c.code pc = .ok (.invokespecial index, 3)) (hp : pc + 3 = q) (k : ∀ v T' L, Stand p l e R s m args below meth c T' (locs ++ L) (cells + rm.cells) (slots + rm.slots) → Q' v T'.heap L → Ga p e below s Q C S T' m q Ls (v.toList ++ rest)) : Ga p e below s Q C S T m pc Ls st := by
  subst hp has hst
  obtain ⟨_, _, ⟨T', L', k', n'⟩, -, X', ⟨Lc, hQ', l1, y1, z1⟩, sx⟩ := X.specialBack hx (y := y) hy1 hown (mvT hZ w1) (mvT hZ w2) (mvT hZ w4) hy (backOf (W := W) hM hZ w4 w3 hf hl) (g := mkF m pc Ls (argsL.reverse ++ .ref a :: rest)) rfl hsz (Steps.refl _) (a := a) (argsL := argsL) (rest := rest) hlen rfl (by show 2 * 0 + _ ≤ _; omega) hd (fun _ _ => ⟨rfl, eT, hcl, hsl⟩)
  dsimp only [Pt.U, Pt.locs, Pt.cells, Pt.slots] at X' l1 y1 z1 sx hQ'
  subst l1 y1 z1
  exact Ga.stp (fun _ kk => sx.trans kk) (k _ T' Lc X' hQ')
theorem g_virtual (X : Stand p l e R s m args below meth c T locs cells slots) (hx : p.tables.exec = Jvm.exec) (hZ : Z.Warmed39 s.vm) (hown : s.vm.findClass own = some m.cls) {index : Nat} {y z : MethodName} {K : String} {ret : Option FieldType} {bytes : ByteArray} {maxL : Nat} {rm : Room} {as' : Array Value} {Q' : Option Value → Heap → List Loc → Prop} (w1 : (Cond.methodLink own index y).before a0 Z = true) (w2 : (Cond.declares y).before a0 Z = true) (nf : NotFace s y) (w3 : (Cond.selects K y z).before a0 Z = true) (w4 : (Cond.instanceMethod z).before a0 Z = true) (w5 : (Cond.initialized z.cls).before a0 Z = true) (w6 : (Cond.code z bytes maxL ret).before a0 Z = true) (hy : y.cls ≠ "java/lang/invoke/MethodHandle" ∧ y.cls ≠ "java/lang/invoke/VarHandle") {a : Addr} (E : Exa Z h a K)
    (hM : Ct l Z z bytes maxL ret [] rm as' h Q') (hsz : Ls.size = c.maxLocals) (eT : T.heap = h) (argsL : List Value) {rest : List Value} (has : as' = (.ref a :: argsL).toArray) (hst : st = argsL.reverse ++ .ref a :: rest) {W : Nat} (hW : (rest.map fun v => v.category).sum ≤ W) (hf : rm.frames + 1 ≤ R.frames) (hl : W + (maxL + 11) + rm.locals ≤ R.locals) (hcl : cells + rm.cells ≤ R.cells) (hsl : slots + rm.slots ≤ R.slots) (hlen : ∀ sig, parseMethodDescriptor y.desc = some sig → argsL.length = sig.parameters.length) (hd : decode c.code pc = .ok (.invokevirtual index, 3)) (hp : pc + 3 = q) (k : ∀ v T' L, Stand p l e R s m args below meth c T' (locs ++ L) (cells + rm.cells) (slots + rm.slots) → Q' v T'.heap L → Ga p e below s Q C S T' m q Ls (v.toList ++ rest)) : Ga p e below s Q C S T m pc Ls st := by
  subst hp has hst
  obtain ⟨cq, kq, qa, qb, qc⟩ := isOf hZ eT E
  obtain ⟨_, _, ⟨T', L', k', n'⟩, -, X', ⟨Lc, hQ', l1, y1, z1⟩, sx⟩ := X.virtualBack hx (y := y) (z := z) hown (mvT hZ w1) (mvT hZ w2) nf (mvT hZ w3) (mvT hZ w4) hy (backOf (W := W) hM hZ w6 w5 hf hl) qa qc (g := mkF m pc Ls (argsL.reverse ++ .ref a :: rest)) rfl hsz (Steps.refl _) (argsL := argsL) (rest := rest) hlen rfl (by show 2 * 0 + _ ≤ _; omega) hd (fun _ _ => ⟨rfl, eT, hcl, hsl⟩)
  dsimp only [Pt.U, Pt.locs, Pt.cells, Pt.slots] at X' l1 y1 z1 sx hQ'
  subst l1 y1 z1
  exact Ga.stp (fun _ kk => sx.trans kk) (k _ T' Lc X' hQ')
variable {ka : ClassId} {ty : FieldType} {z j : Int32} {vs : List Value} {dv : Value} {a : Addr}
theorem g_len (X : Stand p l e R s m args below meth c T locs cells slots) (hx : p.tables.exec = Jvm.exec) (hZ : Z.Warmed39 s.vm) (eT : T.heap = h) (A : Arv Z h a ka ty z vs dv) (hd : decode c.code pc = .ok (.arraylength, 1)) (hp : pc + 1 = q) (g : Ga p e below s Q C S T m q Ls (.int z :: st)) : Ga p e below s Q C S T m pc Ls (.ref a :: st) := by
  subst hp
  obtain ⟨cl, Ar, -, Sz, N, -, -⟩ := A
  refine Ga.stp (fun t k => X.arraylength hx (by rw [eT]; exact Ar.1) (State.isArrayOf_alike hZ.alike Ar.2.1) (g := mkF m pc Ls (.ref a :: st)) rfl rfl hd t ?_) g
  rw [len_of Sz N]; exact k
theorem g_iaload (X : Stand p l e R s m args below meth c T locs cells slots) (hx : p.tables.exec = Jvm.exec) (hZ : Z.Warmed39 s.vm) (eT : T.heap = h) (A : Arv Z h a ka .int z vs dv) {v : Value} (hin : ¬ j < 0 ∧ j < z) (hv : vs.getD j.toNatClampNeg dv = v) (hd : decode c.code pc = .ok (.iaload, 1)) (hp : pc + 1 = q) (g : Ga p e below s Q C S T m q Ls (v :: st)) : Ga p e below s Q C S T m pc Ls (.int j :: .ref a :: st) := by
  subst hp
  obtain ⟨cl, Ar, -, Sz, N, Hs, -⟩ := A
  exact Ga.stp (fun t k => X.iaload hx (j := j) (v := v) (by rw [eT]; exact Ar.1) (State.isArrayOf_alike hZ.alike Ar.2.1) Ar.2.2 (inb_of Sz hin) (Hs.at (inb_of Sz hin) hv) (g := mkF m pc Ls (.int j :: .ref a :: st)) rfl rfl hd t k) g
theorem g_iastore (X : Stand p l e R s m args below meth c T locs cells slots) (hx : p.tables.exec = Jvm.exec) (hZ : Z.Warmed39 s.vm) (eT : T.heap = h) (A : Arv Z h a ka .int z vs dv) {x : Int32} (hin : ¬ j < 0 ∧ j < z) (hlen : j.toNatClampNeg < vs.length) (hd : decode c.code pc = .ok (.iastore, 1)) (hp : pc + 1 = q)
    (k : ∀ T' h', Stand p l e R s m args below meth c T' (locs ++ [⟨a, j.toNatClampNeg⟩]) cells slots → T'.heap = h' → Wr h h' a j.toNatClampNeg (.int x) → Arv Z h' a ka .int z (vs.set j.toNatClampNeg (.int x)) dv → Ga p e below s Q C S T' m q Ls st) : Ga p e below s Q C S T m pc Ls (.int x :: .int j :: .ref a :: st) := by
  subst hp
  obtain ⟨cl, Ar, q1, Sz, N, Hs, Gs⟩ := A
  obtain ⟨T', h', X', e', W', sx⟩ := stI X hx hZ eT Ar (j := j) (inb_of Sz hin) (g := mkF m pc Ls (.int x :: .int j :: .ref a :: st)) rfl rfl hd
  exact Ga.stp sx (k T' h' X' e' W' (Arv.set Ar q1 Sz N Hs Gs rfl W' _ rfl hlen))
theorem g_newarray (X : Stand p l e R s m args below meth c T locs cells slots) (hx : p.tables.exec = Jvm.exec) (hZ : Z.Warmed39 s.vm) {aty : ArrayType} (w : (Cond.arrayClass (newarray.typeOf aty)).before a0 Z = true) (eT : T.heap = h) {n : Int32} (hn : ¬ n < 0) (cap : Nat) (hcap : n.toNatClampNeg ≤ cap) (hb : cap * 8 ≤ 536870912) (hc : cells + 1 ≤ R.cells) (hl : slots + cap ≤ R.slots) {ad : String} (had : "[" ++ (newarray.typeOf aty).toString = ad) (hd : decode c.code pc = .ok (.newarray aty, 2)) (hp : pc + 2 = q)
    (k : ∀ T' h' b kA, Stand p l e R s m args below meth c T' locs (cells + 1) (slots + cap) → T'.heap = h' → b = h.size → Ext h h' → Exa Z h' b ad → Arv Z h' b kA (newarray.typeOf aty) n (List.replicate cap (defaultValue (newarray.typeOf aty))) (defaultValue (newarray.typeOf aty)) → Ga p e below s Q C S T' m q Ls (.ref b :: st)) : Ga p e below s Q C S T m pc Ls (.int n :: st) := by
  subst hp
  obtain ⟨T', h', cA, X', e', E', A', Ea, sx⟩ := newPE X hx hZ w eT (g := mkF m pc Ls (.int n :: st)) rfl hd rfl hn hcap hb hc hl had
  exact Ga.stp sx (k T' h' _ cA X' e' rfl E' Ea ((Arv.new A' hn).pad (by simpa using pad_rep [] (defaultValue (newarray.typeOf aty)) cap)))
theorem g_anewarray (X : Stand p l e R s m args below meth c T locs cells slots) (hx : p.tables.exec = Jvm.exec) (hZ : Z.Warmed39 s.vm) (hown : s.vm.findClass own = some m.cls) {K : String} {index : Nat} (w1 : (Cond.classLink own index K).before a0 Z = true) (w2 : (Cond.arrayOver (.object K)).before a0 Z = true) (eT : T.heap = h) {n : Int32} (hn : ¬ n < 0) (cap : Nat) (hcap : n.toNatClampNeg ≤ cap) (hb : cap * 8 ≤ 536870912) (hc : cells + 1 ≤ R.cells) (hl : slots + cap ≤ R.slots) {ad : String} (had : "[" ++ (FieldType.object K).toString = ad) (hd : decode c.code pc = .ok (.anewarray index, 3)) (hp : pc + 3 = q)
    (k : ∀ T' h' b kA, Stand p l e R s m args below meth c T' locs (cells + 1) (slots + cap) → T'.heap = h' → b = h.size → Ext h h' → Exa Z h' b ad → Ovr Z kA K → Arv Z h' b kA (.object K) n (List.replicate cap .null) .null → Ga p e below s Q C S T' m q Ls (.ref b :: st)) : Ga p e below s Q C S T m pc Ls (.int n :: st) := by
  subst hp
  obtain ⟨T', h', cA, X', e', E', A', Ea, O', sx⟩ := newRE X hx hZ hown w1 w2 eT (g := mkF m pc Ls (.int n :: st)) rfl hd rfl hn hcap hb hc hl had
  exact Ga.stp sx (k T' h' _ cA X' e' rfl E' Ea O' ((Arv.new A' hn).pad (by show ∀ i, (List.replicate cap (defaultValue (FieldType.object K))).getD i (defaultValue (FieldType.object K)) = [].getD i (defaultValue (FieldType.object K)); simpa using pad_rep [] (defaultValue (FieldType.object K)) cap)))
theorem own_ne {b : Addr} (h1 : a < h.size) (h2 : b = h.size) : a ≠ b := Nat.ne_of_lt (h2 ▸ h1)
end GoKit

theorem own_irrI (x : Int32) : ¬ x < x := Int32.lt_irrefl
theorem own_irrJ (x : Int64) : ¬ x < x := Int64.lt_irrefl
theorem own_narc (x : Int32) : nar .char (x &&& (255 : Int32)) = (x &&& (255 : Int32)) := i2c_mask x
theorem own_nar (x : Int32) : nar .byte x = x.toInt8.toInt32 := rfl
theorem own_bb (x : Int32) : x.toInt8.toInt32.toInt8.toInt32 = x.toInt8.toInt32 := by simp
theorem own_nb {h : Heap} {b b' y : Addr} (hb : b' = b ∨ h.size ≤ b') (lt : y < h.size) (ne : y ≠ b) : y ≠ b' := hb.elim (fun q => q ▸ ne) (fun q => Nat.ne_of_lt (Nat.lt_of_lt_of_le lt q))
theorem own_ng {h : Heap} {b b' : Addr} {n0 : Nat} (hb : b' = b ∨ h.size ≤ b') (g : n0 ≤ b) (Z : n0 ≤ h.size) : n0 ≤ b' := hb.elim (fun q => q ▸ g) (fun q => Nat.le_trans Z q)
theorem own_insK {Z : State} {h h' : Heap} {a : Addr} {C : String} {ws : List Addr} (F : Ins Z h a C true) (K : Keep h h' ws) : Ins Z h' a C true := by
  obtain ⟨cell, cT, h1, h2, h3⟩ := F
  obtain ⟨c', q1, q2, q3, -⟩ := K.2.2 _ _ h1
  exact ⟨c', cT, q1, h2, by rw [q2, q3]; exact h3⟩
theorem d_prog_57_m_1_0 : decode prog_57_method_1_code 0 = .ok (.aload_n 0, 1) := by decide +kernel
theorem d_prog_57_m_1_1 : decode prog_57_method_1_code 1 = .ok (.invokespecial 1, 3) := by decide +kernel
theorem d_prog_57_m_1_4 : decode prog_57_method_1_code 4 = .ok (.aload_n 0, 1) := by decide +kernel
theorem d_prog_57_m_1_5 : decode prog_57_method_1_code 5 = .ok (.aload_n 1, 1) := by decide +kernel
theorem d_prog_57_m_1_6 : decode prog_57_method_1_code 6 = .ok (.putfield 7, 3) := by decide +kernel
theorem d_prog_57_m_1_9 : decode prog_57_method_1_code 9 = .ok (.aload_n 0, 1) := by decide +kernel
theorem d_prog_57_m_1_10 : decode prog_57_method_1_code 10 = .ok (.aload_n 2, 1) := by decide +kernel
theorem d_prog_57_m_1_11 : decode prog_57_method_1_code 11 = .ok (.putfield 13, 3) := by decide +kernel
theorem d_prog_57_m_1_14 : decode prog_57_method_1_code 14 = .ok (.return_, 1) := by decide +kernel
theorem d_prog_57_m_8_0 : decode prog_57_method_8_code 0 = .ok (.iconst 1, 1) := by decide +kernel
theorem d_prog_57_m_8_1 : decode prog_57_method_8_code 1 = .ok (.istore_n 1, 1) := by decide +kernel
theorem d_prog_57_m_8_2 : decode prog_57_method_8_code 2 = .ok (.iload_n 1, 1) := by decide +kernel
theorem d_prog_57_m_8_3 : decode prog_57_method_8_code 3 = .ok (.aload_n 0, 1) := by decide +kernel
theorem d_prog_57_m_8_4 : decode prog_57_method_8_code 4 = .ok (.getfield 7, 3) := by decide +kernel
theorem d_prog_57_m_8_7 : decode prog_57_method_8_code 7 = .ok (.arraylength, 1) := by decide +kernel
theorem d_prog_57_m_8_8 : decode prog_57_method_8_code 8 = .ok (.if_icmp .ge 44, 3) := by decide +kernel
theorem d_prog_57_m_8_52 : decode prog_57_method_8_code 52 = .ok (.iconst 0, 1) := by decide +kernel
theorem d_prog_57_m_8_53 : decode prog_57_method_8_code 53 = .ok (.ireturn, 1) := by decide +kernel
theorem d_prog_57_m_8_11 : decode prog_57_method_8_code 11 = .ok (.iconst 0, 1) := by decide +kernel
theorem d_prog_57_m_8_12 : decode prog_57_method_8_code 12 = .ok (.istore_n 2, 1) := by decide +kernel
theorem d_prog_57_m_8_13 : decode prog_57_method_8_code 13 = .ok (.iload_n 2, 1) := by decide +kernel
theorem d_prog_57_m_8_14 : decode prog_57_method_8_code 14 = .ok (.iload_n 1, 1) := by decide +kernel
theorem d_prog_57_m_8_15 : decode prog_57_method_8_code 15 = .ok (.if_icmp .ge 31, 3) := by decide +kernel
theorem d_prog_57_m_8_18 : decode prog_57_method_8_code 18 = .ok (.aload_n 0, 1) := by decide +kernel
theorem d_prog_57_m_8_19 : decode prog_57_method_8_code 19 = .ok (.getfield 7, 3) := by decide +kernel
theorem d_prog_57_m_8_22 : decode prog_57_method_8_code 22 = .ok (.iload_n 1, 1) := by decide +kernel
theorem d_prog_57_m_8_23 : decode prog_57_method_8_code 23 = .ok (.iaload, 1) := by decide +kernel
theorem d_prog_57_m_8_24 : decode prog_57_method_8_code 24 = .ok (.aload_n 0, 1) := by decide +kernel
theorem d_prog_57_m_8_25 : decode prog_57_method_8_code 25 = .ok (.getfield 7, 3) := by decide +kernel
theorem d_prog_57_m_8_28 : decode prog_57_method_8_code 28 = .ok (.iload_n 2, 1) := by decide +kernel
theorem d_prog_57_m_8_29 : decode prog_57_method_8_code 29 = .ok (.iaload, 1) := by decide +kernel
theorem d_prog_57_m_8_30 : decode prog_57_method_8_code 30 = .ok (.if_icmp .ne 10, 3) := by decide +kernel
theorem d_prog_57_m_8_33 : decode prog_57_method_8_code 33 = .ok (.aload_n 0, 1) := by decide +kernel
theorem d_prog_57_m_8_34 : decode prog_57_method_8_code 34 = .ok (.getfield 7, 3) := by decide +kernel
theorem d_prog_57_m_8_37 : decode prog_57_method_8_code 37 = .ok (.iload_n 1, 1) := by decide +kernel
theorem d_prog_57_m_8_38 : decode prog_57_method_8_code 38 = .ok (.iaload, 1) := by decide +kernel
theorem d_prog_57_m_8_39 : decode prog_57_method_8_code 39 = .ok (.ireturn, 1) := by decide +kernel
theorem d_prog_57_m_8_40 : decode prog_57_method_8_code 40 = .ok (.iinc 2 1, 3) := by decide +kernel
theorem d_prog_57_m_8_43 : decode prog_57_method_8_code 43 = .ok (.goto (-30), 3) := by decide +kernel
theorem d_prog_57_m_8_46 : decode prog_57_method_8_code 46 = .ok (.iinc 1 1, 3) := by decide +kernel
theorem d_prog_57_m_8_49 : decode prog_57_method_8_code 49 = .ok (.goto (-47), 3) := by decide +kernel
theorem d_m_2_0 : decode method_2_code 0 = .ok (.iload_n 0, 1) := by decide +kernel
theorem d_m_2_1 : decode method_2_code 1 = .ok (.iconst 2, 1) := by decide +kernel
theorem d_m_2_2 : decode method_2_code 2 = .ok (.if_icmp .lt 10, 3) := by decide +kernel
theorem d_m_2_12 : decode method_2_code 12 = .ok (.iload_n 0, 1) := by decide +kernel
theorem d_m_2_13 : decode method_2_code 13 = .ok (.iconst 3, 1) := by decide +kernel
theorem d_m_2_14 : decode method_2_code 14 = .ok (.if_icmp .lt 15, 3) := by decide +kernel
theorem d_m_2_29 : decode method_2_code 29 = .ok (.iload_n 0, 1) := by decide +kernel
theorem d_m_2_30 : decode method_2_code 30 = .ok (.iconst 4, 1) := by decide +kernel
theorem d_m_2_31 : decode method_2_code 31 = .ok (.if_icmp .lt 24, 3) := by decide +kernel
theorem d_m_2_55 : decode method_2_code 55 = .ok (.iload_n 0, 1) := by decide +kernel
theorem d_m_2_56 : decode method_2_code 56 = .ok (.iconst 5, 1) := by decide +kernel
theorem d_m_2_57 : decode method_2_code 57 = .ok (.if_icmp .lt 31, 3) := by decide +kernel
theorem d_m_2_88 : decode method_2_code 88 = .ok (.iconst 0, 1) := by decide +kernel
theorem d_m_2_89 : decode method_2_code 89 = .ok (.ireturn, 1) := by decide +kernel
theorem d_m_2_5 : decode method_2_code 5 = .ok (.iload_n 2, 1) := by decide +kernel
theorem d_m_2_6 : decode method_2_code 6 = .ok (.iload_n 1, 1) := by decide +kernel
theorem d_m_2_7 : decode method_2_code 7 = .ok (.if_icmp .ne 5, 3) := by decide +kernel
theorem d_m_2_10 : decode method_2_code 10 = .ok (.iload_n 2, 1) := by decide +kernel
theorem d_m_2_11 : decode method_2_code 11 = .ok (.ireturn, 1) := by decide +kernel
theorem d_m_2_17 : decode method_2_code 17 = .ok (.iload_n 3, 1) := by decide +kernel
theorem d_m_2_18 : decode method_2_code 18 = .ok (.iload_n 1, 1) := by decide +kernel
theorem d_m_2_19 : decode method_2_code 19 = .ok (.if_icmp .eq 8, 3) := by decide +kernel
theorem d_m_2_27 : decode method_2_code 27 = .ok (.iload_n 3, 1) := by decide +kernel
theorem d_m_2_28 : decode method_2_code 28 = .ok (.ireturn, 1) := by decide +kernel
theorem d_m_2_22 : decode method_2_code 22 = .ok (.iload_n 3, 1) := by decide +kernel
theorem d_m_2_23 : decode method_2_code 23 = .ok (.iload_n 2, 1) := by decide +kernel
theorem d_m_2_24 : decode method_2_code 24 = .ok (.if_icmp .ne 5, 3) := by decide +kernel
theorem d_m_2_34 : decode method_2_code 34 = .ok (.iload 4, 2) := by decide +kernel
theorem d_m_2_36 : decode method_2_code 36 = .ok (.iload_n 1, 1) := by decide +kernel
theorem d_m_2_37 : decode method_2_code 37 = .ok (.if_icmp .eq 15, 3) := by decide +kernel
theorem d_m_2_52 : decode method_2_code 52 = .ok (.iload 4, 2) := by decide +kernel
theorem d_m_2_54 : decode method_2_code 54 = .ok (.ireturn, 1) := by decide +kernel
theorem d_m_2_40 : decode method_2_code 40 = .ok (.iload 4, 2) := by decide +kernel
theorem d_m_2_42 : decode method_2_code 42 = .ok (.iload_n 2, 1) := by decide +kernel
theorem d_m_2_43 : decode method_2_code 43 = .ok (.if_icmp .eq 9, 3) := by decide +kernel
theorem d_m_2_46 : decode method_2_code 46 = .ok (.iload 4, 2) := by decide +kernel
theorem d_m_2_48 : decode method_2_code 48 = .ok (.iload_n 3, 1) := by decide +kernel
theorem d_m_2_49 : decode method_2_code 49 = .ok (.if_icmp .ne 6, 3) := by decide +kernel
theorem d_m_2_60 : decode method_2_code 60 = .ok (.iload 5, 2) := by decide +kernel
theorem d_m_2_62 : decode method_2_code 62 = .ok (.iload_n 1, 1) := by decide +kernel
theorem d_m_2_63 : decode method_2_code 63 = .ok (.if_icmp .eq 22, 3) := by decide +kernel
theorem d_m_2_85 : decode method_2_code 85 = .ok (.iload 5, 2) := by decide +kernel
theorem d_m_2_87 : decode method_2_code 87 = .ok (.ireturn, 1) := by decide +kernel
theorem d_m_2_66 : decode method_2_code 66 = .ok (.iload 5, 2) := by decide +kernel
theorem d_m_2_68 : decode method_2_code 68 = .ok (.iload_n 2, 1) := by decide +kernel
theorem d_m_2_69 : decode method_2_code 69 = .ok (.if_icmp .eq 16, 3) := by decide +kernel
theorem d_m_2_72 : decode method_2_code 72 = .ok (.iload 5, 2) := by decide +kernel
theorem d_m_2_74 : decode method_2_code 74 = .ok (.iload_n 3, 1) := by decide +kernel
theorem d_m_2_75 : decode method_2_code 75 = .ok (.if_icmp .eq 10, 3) := by decide +kernel
theorem d_m_2_78 : decode method_2_code 78 = .ok (.iload 5, 2) := by decide +kernel
theorem d_m_2_80 : decode method_2_code 80 = .ok (.iload 4, 2) := by decide +kernel
theorem d_m_2_82 : decode method_2_code 82 = .ok (.if_icmp .ne 6, 3) := by decide +kernel
theorem pd_0 : parseMethodDescriptor "([I[Ljava/lang/String;)V" = some ⟨[(.array .int), (.array (.object "java/lang/String"))], none⟩ := by decide +kernel
theorem pd_1 : parseMethodDescriptor "()I" = some ⟨[], some .int⟩ := by decide +kernel
theorem pd_2 : parseMethodDescriptor "(IIIIII)I" = some ⟨[.int, .int, .int, .int, .int, .int], some .int⟩ := by decide +kernel
theorem pn_0 : plainName "com/example/crosstide/crosstide/fix/FixMessage" = true := by first | (simp [plainName, overriddenIn]; done) | decide +kernel
theorem pn_1 : plainName "com/example/crosstide/crosstide/fix/FixMessageRepeatedTagPinLaw" = true := by first | (simp [plainName, overriddenIn]; done) | decide +kernel
theorem own_lt32 {x y : Int32} : x < y ↔ x.toInt < y.toInt := Int32.lt_iff_toInt_lt
theorem own_eq32 {x y : Int32} : x = y ↔ x.toInt = y.toInt := Int32.toInt_inj.symm
theorem own_i0 : (0 : Int32).toInt = 0 := rfl
theorem own_i1 : (1 : Int32).toInt = 1 := rfl
theorem own_nat {j z : Int32} (h0 : ¬ j < 0) (h : j < z) : j.toNatClampNeg < z.toNatClampNeg := by
  have a := nat_of h0
  have hz : ¬ z < 0 := by rw [own_lt32] at *; rw [own_i0] at *; omega
  have b := nat_of hz
  rw [own_lt32] at h; omega
theorem own_mx {x v : Int32} (h : (x &&& (2147483647 : Int32)) = v) : ¬ v < (0 : Int32) := by
  have e := c_mask x 2147483647 31 (by decide) (by decide)
  rw [h] at e; rw [own_lt32, own_i0]; omega
theorem own_mx1 {x v : Int32} (h : (x &&& (2147483647 : Int32)) = v) (h0 : ¬ v = 0) : ¬ v < (1 : Int32) := by
  have e := c_mask x 2147483647 31 (by decide) (by decide)
  rw [h] at e; rw [own_eq32, own_i0] at h0; rw [own_lt32, own_i1]; omega
theorem own_rem3 {x v : Int32} (h0 : ¬ x < (0 : Int32)) (h : (x % (3 : Int32)) = v) : v = (0 : Int32) ∨ v = (1 : Int32) ∨ v = (2 : Int32) := by
  have e := (c_irem x 3 3 rfl).1 (by rw [own_lt32, own_i0] at h0; omega)
  rw [h] at e
  have : v.toInt = 0 ∨ v.toInt = 1 ∨ v.toInt = 2 := by omega
  rcases this with q | q | q
  · left; exact Int32.toInt_inj.mp q
  · right; left; exact Int32.toInt_inj.mp q
  · right; right; exact Int32.toInt_inj.mp q
theorem own_ushr0 (x q : Int32) (k : Nat) (hk : q.toBitVec.toNat % 32 = k) (hk0 : 0 < k) : ¬ ((x.toUInt32 >>> (q &&& 31).toUInt32).toInt32) < (0 : Int32) := by
  have e := c_iushr x q k hk hk0
  rw [own_lt32, e, own_i0]
  have : 0 ≤ (x.toInt % 4294967296) / ((2 ^ k : Nat) : Int) := Int.ediv_nonneg (Int.emod_nonneg _ (by decide)) (Int.natCast_nonneg _)
  omega
def own_e0 : Int32 := (0 : Int32)
def own_e1 (t0 : Int32) : Int32 := (0 : Int32)
def own_e2 (t0 t1 : Int32) : Int32 := (if t1 = t0 then t1 else (0 : Int32))
def own_e3 (t0 t1 t2 : Int32) : Int32 := (if t1 = t0 then t1 else (if t2 = t0 then t2 else (if t2 = t1 then t2 else (0 : Int32))))
def own_e4 (t0 t1 t2 t3 : Int32) : Int32 := (if t1 = t0 then t1 else (if t2 = t0 then t2 else (if t2 = t1 then t2 else (if t3 = t0 then t3 else (if t3 = t1 then t3 else (if t3 = t2 then t3 else (0 : Int32)))))))
def own_e5 (t0 t1 t2 t3 t4 : Int32) : Int32 := (if t1 = t0 then t1 else (if t2 = t0 then t2 else (if t2 = t1 then t2 else (if t3 = t0 then t3 else (if t3 = t1 then t3 else (if t3 = t2 then t3 else (if t4 = t0 then t4 else (if t4 = t1 then t4 else (if t4 = t2 then t4 else (if t4 = t3 then t4 else (0 : Int32)))))))))))
theorem own_rem6 {x v : Int32} (h0 : ¬ x < (0 : Int32)) (h : (x % (6 : Int32)) = v) : v = (0 : Int32) ∨ v = (1 : Int32) ∨ v = (2 : Int32) ∨ v = (3 : Int32) ∨ v = (4 : Int32) ∨ v = (5 : Int32) := by
  have e := (c_irem x 6 6 rfl).1 (by rw [own_lt32, own_i0] at h0; omega)
  rw [h] at e
  have : v.toInt = 0 ∨ v.toInt = 1 ∨ v.toInt = 2 ∨ v.toInt = 3 ∨ v.toInt = 4 ∨ v.toInt = 5 := by omega
  rcases this with q | q | q | q | q | q
  · left; exact Int32.toInt_inj.mp q
  · right; left; exact Int32.toInt_inj.mp q
  · right; right; left; exact Int32.toInt_inj.mp q
  · right; right; right; left; exact Int32.toInt_inj.mp q
  · right; right; right; right; left; exact Int32.toInt_inj.mp q
  · right; right; right; right; right; exact Int32.toInt_inj.mp q

def Q_fini (Z : State) (a : Addr) (x : Addr) (y : Addr) (h0 : Heap) (n0 : Nat) (v : Option Value) (h : Heap) (L : List Loc) : Prop := v = none ∧ Fr n0 L ∧ Keep h0 h [a] ∧ Exa Z h a "com/example/crosstide/crosstide/fix/FixMessage" ∧ Fld Z h a "com/example/crosstide/crosstide/fix/FixMessage" "tags" "[I" (.ref x) ∧ Fld Z h a "com/example/crosstide/crosstide/fix/FixMessage" "values" "[Ljava/lang/String;" (.ref y)
theorem ef_fini (m : MethodId) (x0 : Addr) (x1 : Addr) (x2 : Addr) : entryFrame m #[(.ref x0), (.ref x1), (.ref x2)] 3 = mkF m 0 #[.val (.ref x0), .val (.ref x1), .val (.ref x2)] [] := by first | (simp [entryFrame, mkF, argsToLocals, Value.category]; done) | rfl
set_option maxRecDepth 65536 in
set_option maxHeartbeats 40000000 in
theorem rm_fini (l : Launch) (Z : State) (a0 : Array Value) (hw : ∀ d ∈ tables_1, d.before a0 Z = true) (a : Addr) (x : Addr) (y : Addr) (h0 : Heap) (n0 : Nat) (Z0 : n0 ≤ h0.size) (F_tags_a : Fld Z h0 a "com/example/crosstide/crosstide/fix/FixMessage" "tags" "[I" .null) (F_values_a : Fld Z h0 a "com/example/crosstide/crosstide/fix/FixMessage" "values" "[Ljava/lang/String;" .null) (E_a : Exa Z h0 a "com/example/crosstide/crosstide/fix/FixMessage") (g_a : n0 ≤ a) :
    Ct l Z (⟨"com/example/crosstide/crosstide/fix/FixMessage", "<init>", "([I[Ljava/lang/String;)V"⟩ : MethodName) prog_57_method_1_code 3 none [] ({ frames := 1, cells := 0, slots := 0, locals := 12 } : Room) #[(.ref a), (.ref x), (.ref y)] h0 (Q_fini Z a x y h0 n0) := by
  refine own_body (plainFor_of_name pn_0) (fun m => ef_fini m a x y) ?_
  intro p e s m below meth c T0 hx hby hml hZ hown hnm hret hlk X0 e0
  have N0 := Fr.nil n0
  refine g_aloadN X0 hx (hb hby d_prog_57_m_1_0) rfl rfl rfl ?_
  refine g_initO X0 hx hZ hown (hw _ (List.mem_of_getElem? (i := 10) rfl)) (hw _ (List.mem_of_getElem? (i := 11) rfl)) (hw _ (List.mem_of_getElem? (i := 12) rfl)) e0 (by rw [hml]; rfl) (hb hby d_prog_57_m_1_1) rfl (by decide) (W := 0) (Nat.le_of_eq rfl) (by decide) fun T1 X1 e1 => ?_
  refine g_aloadN X1 hx (hb hby d_prog_57_m_1_4) rfl rfl rfl ?_
  refine g_aloadN X1 hx (hb hby d_prog_57_m_1_5) rfl rfl rfl ?_
  refine g_putF X1 hx hZ hown (host := "") (Or.inl (hw _ (List.mem_of_getElem? (i := 13) rfl))) Via.refl e1 F_tags_a E_a (Or.inr ⟨(hw _ (List.mem_of_getElem? (i := 14) rfl)), rfl, hnm⟩) (hw _ (List.mem_of_getElem? (i := 5) rfl)) (ty := (.array .int)) (by decide) rfl rfl (hb hby d_prog_57_m_1_6) rfl fun T2 h2 X2 e2 W2 F2 => ?_
  have kk2 : Keep h0 h2 [a] := (Keep.refl h0 [a]).wr W2 (Or.inl (by simp))
  have N2 := Fr.snoc X2 N0 g_a
  have Z2 : n0 ≤ h2.size := by rw [W2.size]; exact Z0
  refine g_aloadN X2 hx (hb hby d_prog_57_m_1_9) rfl rfl rfl ?_
  refine g_aloadN X2 hx (hb hby d_prog_57_m_1_10) rfl rfl rfl ?_
  have f4 : Fld Z h2 a "com/example/crosstide/crosstide/fix/FixMessage" "values" "[Ljava/lang/String;" .null := (F_values_a.other W2 (Or.inr (slot_ne (Or.inr (hw _ (List.mem_of_getElem? (i := 16) rfl))) (Or.inr (hw _ (List.mem_of_getElem? (i := 14) rfl))) (by decide) (t := (.array (.object "java/lang/String"))) (t' := (.array .int)) (by decide) (by decide))))
  have f5 : Exa Z h2 a "com/example/crosstide/crosstide/fix/FixMessage" := (E_a.wr W2)
  refine g_putF X2 hx hZ hown (host := "") (Or.inl (hw _ (List.mem_of_getElem? (i := 15) rfl))) Via.refl e2 f4 f5 (Or.inr ⟨(hw _ (List.mem_of_getElem? (i := 16) rfl)), rfl, hnm⟩) (hw _ (List.mem_of_getElem? (i := 5) rfl)) (ty := (.array (.object "java/lang/String"))) (by decide) rfl rfl (hb hby d_prog_57_m_1_11) rfl fun T3 h3 X3 e3 W3 F3 => ?_
  have kk3 : Keep h0 h3 [a] := kk2.wr W3 (Or.inl (by simp))
  have N3 := Fr.snoc X3 N2 g_a
  have Z3 : n0 ≤ h3.size := by rw [W3.size]; exact Z2
  have f6 : Exa Z h3 a "com/example/crosstide/crosstide/fix/FixMessage" := (f5.wr W3)
  have f7 : Fld Z h3 a "com/example/crosstide/crosstide/fix/FixMessage" "tags" "[I" (.ref x) := (F2.other W3 (Or.inr (slot_ne (Or.inr (hw _ (List.mem_of_getElem? (i := 14) rfl))) (Or.inr (hw _ (List.mem_of_getElem? (i := 16) rfl))) (by decide) (t := (.array .int)) (t' := (.array (.object "java/lang/String"))) (by decide) (by decide))))
  exact g_ret X3 hx hret hlk (hb hby d_prog_57_m_1_14) (by decide) (by decide) (by rw [e3]; exact ⟨rfl, N3, kk3, f6, f7, F3⟩)
def Q_rt0 (Z : State) (a : Addr) (x : Addr) (ka : ClassId) (h0 : Heap) (n0 : Nat) (v : Option Value) (h : Heap) (L : List Loc) : Prop := v = some (.int own_e0) ∧ Fr n0 L ∧ h = h0
theorem ef_rt0 (m : MethodId) (x0 : Addr) : entryFrame m #[(.ref x0)] 3 = mkF m 0 #[.val (.ref x0), .unset, .unset] [] := by first | (simp [entryFrame, mkF, argsToLocals, Value.category]; done) | rfl
set_option maxRecDepth 65536 in
set_option maxHeartbeats 40000000 in
theorem rm_rt0 (l : Launch) (Z : State) (a0 : Array Value) (hw : ∀ d ∈ tables_1, d.before a0 Z = true) (a : Addr) (x : Addr) (ka : ClassId) (h0 : Heap) (n0 : Nat) (Z0 : n0 ≤ h0.size) (F_tags_a : Fld Z h0 a "com/example/crosstide/crosstide/fix/FixMessage" "tags" "[I" (.ref x)) (V_x : Arv Z h0 x ka .int (0 : Int32) [] (.int (0 : Int32))) :
    Ct l Z (⟨"com/example/crosstide/crosstide/fix/FixMessage", "repeatedTag", "()I"⟩ : MethodName) prog_57_method_8_code 3 (some .int) [] ({ frames := 0, cells := 0, slots := 0, locals := 0 } : Room) #[(.ref a)] h0 (Q_rt0 Z a x ka h0 n0) := by
  refine own_body (plainFor_of_name pn_0) (fun m => ef_rt0 m a) ?_
  intro p e s m below meth c T0 hx hby hml hZ hown hnm hret hlk X0 e0
  have N0 := Fr.nil n0
  refine g_iconst X0 hx (r := (1 : Int32)) (hb hby d_prog_57_m_8_0) rfl rfl ?_
  refine g_istoreN X0 hx (Ls' := #[.val (.ref a), .val (.int (1 : Int32)), .unset]) (hb hby d_prog_57_m_8_1) rfl rfl ?_
  refine g_iloadN X0 hx (hb hby d_prog_57_m_8_2) rfl rfl ?_
  refine g_aloadN X0 hx (hb hby d_prog_57_m_8_3) rfl rfl rfl ?_
  refine g_getF X0 hx hZ hown (host := "") (Or.inl (hw _ (List.mem_of_getElem? (i := 13) rfl))) Via.refl e0 F_tags_a (hb hby d_prog_57_m_8_4) rfl fun T1 X1 e1 => ?_
  refine g_len X1 hx hZ e1 V_x (hb hby d_prog_57_m_8_7) rfl ?_
  refine g_icmpY X1 hx (q := 52) (hb hby d_prog_57_m_8_8) (XT.ii_ge_t (by decide : ¬ (1 : Int32) < (0 : Int32))) (by decide) (by decide) ?_
  refine g_iconst X1 hx (r := (0 : Int32)) (hb hby d_prog_57_m_8_52) rfl rfl ?_
  exact g_retI X1 hx hret hlk (hb hby d_prog_57_m_8_53) (by decide) (by decide) (by rw [e1]; exact ⟨(by unfold own_e0; rfl), N0, rfl⟩)
def Q_rt1 (Z : State) (a : Addr) (x : Addr) (ka : ClassId) (t0 : Int32) (h0 : Heap) (n0 : Nat) (v : Option Value) (h : Heap) (L : List Loc) : Prop := v = some (.int (own_e1 t0)) ∧ Fr n0 L ∧ h = h0
theorem ef_rt1 (m : MethodId) (x0 : Addr) : entryFrame m #[(.ref x0)] 3 = mkF m 0 #[.val (.ref x0), .unset, .unset] [] := by first | (simp [entryFrame, mkF, argsToLocals, Value.category]; done) | rfl
set_option maxRecDepth 65536 in
set_option maxHeartbeats 40000000 in
theorem rm_rt1 (l : Launch) (Z : State) (a0 : Array Value) (hw : ∀ d ∈ tables_1, d.before a0 Z = true) (a : Addr) (x : Addr) (ka : ClassId) (t0 : Int32) (h0 : Heap) (n0 : Nat) (Z0 : n0 ≤ h0.size) (F_tags_a : Fld Z h0 a "com/example/crosstide/crosstide/fix/FixMessage" "tags" "[I" (.ref x)) (V_x : Arv Z h0 x ka .int (1 : Int32) [(.int t0)] (.int (0 : Int32))) :
    Ct l Z (⟨"com/example/crosstide/crosstide/fix/FixMessage", "repeatedTag", "()I"⟩ : MethodName) prog_57_method_8_code 3 (some .int) [] ({ frames := 0, cells := 0, slots := 0, locals := 0 } : Room) #[(.ref a)] h0 (Q_rt1 Z a x ka t0 h0 n0) := by
  refine own_body (plainFor_of_name pn_0) (fun m => ef_rt1 m a) ?_
  intro p e s m below meth c T0 hx hby hml hZ hown hnm hret hlk X0 e0
  have N0 := Fr.nil n0
  refine g_iconst X0 hx (r := (1 : Int32)) (hb hby d_prog_57_m_8_0) rfl rfl ?_
  refine g_istoreN X0 hx (Ls' := #[.val (.ref a), .val (.int (1 : Int32)), .unset]) (hb hby d_prog_57_m_8_1) rfl rfl ?_
  refine g_iloadN X0 hx (hb hby d_prog_57_m_8_2) rfl rfl ?_
  refine g_aloadN X0 hx (hb hby d_prog_57_m_8_3) rfl rfl rfl ?_
  refine g_getF X0 hx hZ hown (host := "") (Or.inl (hw _ (List.mem_of_getElem? (i := 13) rfl))) Via.refl e0 F_tags_a (hb hby d_prog_57_m_8_4) rfl fun T1 X1 e1 => ?_
  refine g_len X1 hx hZ e1 V_x (hb hby d_prog_57_m_8_7) rfl ?_
  refine g_icmpY X1 hx (q := 52) (hb hby d_prog_57_m_8_8) (XT.ii_ge_t (by decide : ¬ (1 : Int32) < (1 : Int32))) (by decide) (by decide) ?_
  refine g_iconst X1 hx (r := (0 : Int32)) (hb hby d_prog_57_m_8_52) rfl rfl ?_
  exact g_retI X1 hx hret hlk (hb hby d_prog_57_m_8_53) (by decide) (by decide) (by rw [e1]; exact ⟨(by unfold own_e1; rfl), N0, rfl⟩)
def Q_rt2 (Z : State) (a : Addr) (x : Addr) (ka : ClassId) (t0 : Int32) (t1 : Int32) (h0 : Heap) (n0 : Nat) (v : Option Value) (h : Heap) (L : List Loc) : Prop := v = some (.int (own_e2 t0 t1)) ∧ Fr n0 L ∧ h = h0
theorem ef_rt2 (m : MethodId) (x0 : Addr) : entryFrame m #[(.ref x0)] 3 = mkF m 0 #[.val (.ref x0), .unset, .unset] [] := by first | (simp [entryFrame, mkF, argsToLocals, Value.category]; done) | rfl
set_option maxRecDepth 65536 in
set_option maxHeartbeats 40000000 in
theorem rm_rt2 (l : Launch) (Z : State) (a0 : Array Value) (hw : ∀ d ∈ tables_1, d.before a0 Z = true) (a : Addr) (x : Addr) (ka : ClassId) (t0 : Int32) (t1 : Int32) (h0 : Heap) (n0 : Nat) (Z0 : n0 ≤ h0.size) (F_tags_a : Fld Z h0 a "com/example/crosstide/crosstide/fix/FixMessage" "tags" "[I" (.ref x)) (V_x : Arv Z h0 x ka .int (2 : Int32) [(.int t0), (.int t1)] (.int (0 : Int32))) :
    Ct l Z (⟨"com/example/crosstide/crosstide/fix/FixMessage", "repeatedTag", "()I"⟩ : MethodName) prog_57_method_8_code 3 (some .int) [] ({ frames := 0, cells := 0, slots := 0, locals := 0 } : Room) #[(.ref a)] h0 (Q_rt2 Z a x ka t0 t1 h0 n0) := by
  refine own_body (plainFor_of_name pn_0) (fun m => ef_rt2 m a) ?_
  intro p e s m below meth c T0 hx hby hml hZ hown hnm hret hlk X0 e0
  have N0 := Fr.nil n0
  refine g_iconst X0 hx (r := (1 : Int32)) (hb hby d_prog_57_m_8_0) rfl rfl ?_
  refine g_istoreN X0 hx (Ls' := #[.val (.ref a), .val (.int (1 : Int32)), .unset]) (hb hby d_prog_57_m_8_1) rfl rfl ?_
  refine g_iloadN X0 hx (hb hby d_prog_57_m_8_2) rfl rfl ?_
  refine g_aloadN X0 hx (hb hby d_prog_57_m_8_3) rfl rfl rfl ?_
  refine g_getF X0 hx hZ hown (host := "") (Or.inl (hw _ (List.mem_of_getElem? (i := 13) rfl))) Via.refl e0 F_tags_a (hb hby d_prog_57_m_8_4) rfl fun T1 X1 e1 => ?_
  refine g_len X1 hx hZ e1 V_x (hb hby d_prog_57_m_8_7) rfl ?_
  refine g_icmpN X1 hx (hb hby d_prog_57_m_8_8) rfl (XT.ii_ge_f (by decide : (1 : Int32) < (2 : Int32))) ?_
  refine g_iconst X1 hx (r := (0 : Int32)) (hb hby d_prog_57_m_8_11) rfl rfl ?_
  refine g_istoreN X1 hx (Ls' := #[.val (.ref a), .val (.int (1 : Int32)), .val (.int (0 : Int32))]) (hb hby d_prog_57_m_8_12) rfl rfl ?_
  refine g_iloadN X1 hx (hb hby d_prog_57_m_8_13) rfl rfl ?_
  refine g_iloadN X1 hx (hb hby d_prog_57_m_8_14) rfl rfl ?_
  refine g_icmpN X1 hx (hb hby d_prog_57_m_8_15) rfl (XT.ii_ge_f (by decide : (0 : Int32) < (1 : Int32))) ?_
  refine g_aloadN X1 hx (hb hby d_prog_57_m_8_18) rfl rfl rfl ?_
  refine g_getF X1 hx hZ hown (host := "") (Or.inl (hw _ (List.mem_of_getElem? (i := 13) rfl))) Via.refl e1 F_tags_a (hb hby d_prog_57_m_8_19) rfl fun T2 X2 e2 => ?_
  refine g_iloadN X2 hx (hb hby d_prog_57_m_8_22) rfl rfl ?_
  refine g_iaload X2 hx hZ e2 V_x (v := (.int t1)) ⟨by decide, by decide⟩ rfl (hb hby d_prog_57_m_8_23) rfl ?_
  refine g_aloadN X2 hx (hb hby d_prog_57_m_8_24) rfl rfl rfl ?_
  refine g_getF X2 hx hZ hown (host := "") (Or.inl (hw _ (List.mem_of_getElem? (i := 13) rfl))) Via.refl e2 F_tags_a (hb hby d_prog_57_m_8_25) rfl fun T3 X3 e3 => ?_
  refine g_iloadN X3 hx (hb hby d_prog_57_m_8_28) rfl rfl ?_
  refine g_iaload X3 hx hZ e3 V_x (v := (.int t0)) ⟨by decide, by decide⟩ rfl (hb hby d_prog_57_m_8_29) rfl ?_
  by_cases hc30 : t1 = t0
  · skip
    refine g_icmpN X3 hx (hb hby d_prog_57_m_8_30) rfl (XT.ii_ne_f hc30) ?_
    refine g_aloadN X3 hx (hb hby d_prog_57_m_8_33) rfl rfl rfl ?_
    refine g_getF X3 hx hZ hown (host := "") (Or.inl (hw _ (List.mem_of_getElem? (i := 13) rfl))) Via.refl e3 F_tags_a (hb hby d_prog_57_m_8_34) rfl fun T4 X4 e4 => ?_
    refine g_iloadN X4 hx (hb hby d_prog_57_m_8_37) rfl rfl ?_
    refine g_iaload X4 hx hZ e4 V_x (v := (.int t1)) ⟨by decide, by decide⟩ rfl (hb hby d_prog_57_m_8_38) rfl ?_
    exact g_retI X4 hx hret hlk (hb hby d_prog_57_m_8_39) (by decide) (by decide) (by rw [e4]; exact ⟨(by unfold own_e2; rw [if_pos hc30]), N0, rfl⟩)
  · skip
    refine g_icmpY X3 hx (q := 40) (hb hby d_prog_57_m_8_30) (XT.ii_ne_t hc30) (by decide) (by decide) ?_
    refine g_iinc X3 hx (r := (1 : Int32)) (Ls' := #[.val (.ref a), .val (.int (1 : Int32)), .val (.int (1 : Int32))]) (hb hby d_prog_57_m_8_40) rfl rfl rfl rfl ?_
    refine g_goto X3 hx (q := 13) (hb hby d_prog_57_m_8_43) (by decide) (by decide) ?_
    refine g_iloadN X3 hx (hb hby d_prog_57_m_8_13) rfl rfl ?_
    refine g_iloadN X3 hx (hb hby d_prog_57_m_8_14) rfl rfl ?_
    refine g_icmpY X3 hx (q := 46) (hb hby d_prog_57_m_8_15) (XT.ii_ge_t (by decide : ¬ (1 : Int32) < (1 : Int32))) (by decide) (by decide) ?_
    refine g_iinc X3 hx (r := (2 : Int32)) (Ls' := #[.val (.ref a), .val (.int (2 : Int32)), .val (.int (1 : Int32))]) (hb hby d_prog_57_m_8_46) rfl rfl rfl rfl ?_
    refine g_goto X3 hx (q := 2) (hb hby d_prog_57_m_8_49) (by decide) (by decide) ?_
    refine g_iloadN X3 hx (hb hby d_prog_57_m_8_2) rfl rfl ?_
    refine g_aloadN X3 hx (hb hby d_prog_57_m_8_3) rfl rfl rfl ?_
    refine g_getF X3 hx hZ hown (host := "") (Or.inl (hw _ (List.mem_of_getElem? (i := 13) rfl))) Via.refl e3 F_tags_a (hb hby d_prog_57_m_8_4) rfl fun T5 X5 e5 => ?_
    refine g_len X5 hx hZ e5 V_x (hb hby d_prog_57_m_8_7) rfl ?_
    refine g_icmpY X5 hx (q := 52) (hb hby d_prog_57_m_8_8) (XT.ii_ge_t (by decide : ¬ (2 : Int32) < (2 : Int32))) (by decide) (by decide) ?_
    refine g_iconst X5 hx (r := (0 : Int32)) (hb hby d_prog_57_m_8_52) rfl rfl ?_
    exact g_retI X5 hx hret hlk (hb hby d_prog_57_m_8_53) (by decide) (by decide) (by rw [e5]; exact ⟨(by unfold own_e2; rw [if_neg hc30]), N0, rfl⟩)
def Q_rt3 (Z : State) (a : Addr) (x : Addr) (ka : ClassId) (t0 : Int32) (t1 : Int32) (t2 : Int32) (h0 : Heap) (n0 : Nat) (v : Option Value) (h : Heap) (L : List Loc) : Prop := v = some (.int (own_e3 t0 t1 t2)) ∧ Fr n0 L ∧ h = h0
theorem ef_rt3 (m : MethodId) (x0 : Addr) : entryFrame m #[(.ref x0)] 3 = mkF m 0 #[.val (.ref x0), .unset, .unset] [] := by first | (simp [entryFrame, mkF, argsToLocals, Value.category]; done) | rfl
set_option maxRecDepth 65536 in
set_option maxHeartbeats 40000000 in
theorem rm_rt3 (l : Launch) (Z : State) (a0 : Array Value) (hw : ∀ d ∈ tables_1, d.before a0 Z = true) (a : Addr) (x : Addr) (ka : ClassId) (t0 : Int32) (t1 : Int32) (t2 : Int32) (h0 : Heap) (n0 : Nat) (Z0 : n0 ≤ h0.size) (F_tags_a : Fld Z h0 a "com/example/crosstide/crosstide/fix/FixMessage" "tags" "[I" (.ref x)) (V_x : Arv Z h0 x ka .int (3 : Int32) [(.int t0), (.int t1), (.int t2)] (.int (0 : Int32))) :
    Ct l Z (⟨"com/example/crosstide/crosstide/fix/FixMessage", "repeatedTag", "()I"⟩ : MethodName) prog_57_method_8_code 3 (some .int) [] ({ frames := 0, cells := 0, slots := 0, locals := 0 } : Room) #[(.ref a)] h0 (Q_rt3 Z a x ka t0 t1 t2 h0 n0) := by
  refine own_body (plainFor_of_name pn_0) (fun m => ef_rt3 m a) ?_
  intro p e s m below meth c T0 hx hby hml hZ hown hnm hret hlk X0 e0
  have N0 := Fr.nil n0
  refine g_iconst X0 hx (r := (1 : Int32)) (hb hby d_prog_57_m_8_0) rfl rfl ?_
  refine g_istoreN X0 hx (Ls' := #[.val (.ref a), .val (.int (1 : Int32)), .unset]) (hb hby d_prog_57_m_8_1) rfl rfl ?_
  refine g_iloadN X0 hx (hb hby d_prog_57_m_8_2) rfl rfl ?_
  refine g_aloadN X0 hx (hb hby d_prog_57_m_8_3) rfl rfl rfl ?_
  refine g_getF X0 hx hZ hown (host := "") (Or.inl (hw _ (List.mem_of_getElem? (i := 13) rfl))) Via.refl e0 F_tags_a (hb hby d_prog_57_m_8_4) rfl fun T1 X1 e1 => ?_
  refine g_len X1 hx hZ e1 V_x (hb hby d_prog_57_m_8_7) rfl ?_
  refine g_icmpN X1 hx (hb hby d_prog_57_m_8_8) rfl (XT.ii_ge_f (by decide : (1 : Int32) < (3 : Int32))) ?_
  refine g_iconst X1 hx (r := (0 : Int32)) (hb hby d_prog_57_m_8_11) rfl rfl ?_
  refine g_istoreN X1 hx (Ls' := #[.val (.ref a), .val (.int (1 : Int32)), .val (.int (0 : Int32))]) (hb hby d_prog_57_m_8_12) rfl rfl ?_
  refine g_iloadN X1 hx (hb hby d_prog_57_m_8_13) rfl rfl ?_
  refine g_iloadN X1 hx (hb hby d_prog_57_m_8_14) rfl rfl ?_
  refine g_icmpN X1 hx (hb hby d_prog_57_m_8_15) rfl (XT.ii_ge_f (by decide : (0 : Int32) < (1 : Int32))) ?_
  refine g_aloadN X1 hx (hb hby d_prog_57_m_8_18) rfl rfl rfl ?_
  refine g_getF X1 hx hZ hown (host := "") (Or.inl (hw _ (List.mem_of_getElem? (i := 13) rfl))) Via.refl e1 F_tags_a (hb hby d_prog_57_m_8_19) rfl fun T2 X2 e2 => ?_
  refine g_iloadN X2 hx (hb hby d_prog_57_m_8_22) rfl rfl ?_
  refine g_iaload X2 hx hZ e2 V_x (v := (.int t1)) ⟨by decide, by decide⟩ rfl (hb hby d_prog_57_m_8_23) rfl ?_
  refine g_aloadN X2 hx (hb hby d_prog_57_m_8_24) rfl rfl rfl ?_
  refine g_getF X2 hx hZ hown (host := "") (Or.inl (hw _ (List.mem_of_getElem? (i := 13) rfl))) Via.refl e2 F_tags_a (hb hby d_prog_57_m_8_25) rfl fun T3 X3 e3 => ?_
  refine g_iloadN X3 hx (hb hby d_prog_57_m_8_28) rfl rfl ?_
  refine g_iaload X3 hx hZ e3 V_x (v := (.int t0)) ⟨by decide, by decide⟩ rfl (hb hby d_prog_57_m_8_29) rfl ?_
  by_cases hc30 : t1 = t0
  · skip
    refine g_icmpN X3 hx (hb hby d_prog_57_m_8_30) rfl (XT.ii_ne_f hc30) ?_
    refine g_aloadN X3 hx (hb hby d_prog_57_m_8_33) rfl rfl rfl ?_
    refine g_getF X3 hx hZ hown (host := "") (Or.inl (hw _ (List.mem_of_getElem? (i := 13) rfl))) Via.refl e3 F_tags_a (hb hby d_prog_57_m_8_34) rfl fun T4 X4 e4 => ?_
    refine g_iloadN X4 hx (hb hby d_prog_57_m_8_37) rfl rfl ?_
    refine g_iaload X4 hx hZ e4 V_x (v := (.int t1)) ⟨by decide, by decide⟩ rfl (hb hby d_prog_57_m_8_38) rfl ?_
    exact g_retI X4 hx hret hlk (hb hby d_prog_57_m_8_39) (by decide) (by decide) (by rw [e4]; exact ⟨(by unfold own_e3; rw [if_pos hc30]), N0, rfl⟩)
  · skip
    refine g_icmpY X3 hx (q := 40) (hb hby d_prog_57_m_8_30) (XT.ii_ne_t hc30) (by decide) (by decide) ?_
    refine g_iinc X3 hx (r := (1 : Int32)) (Ls' := #[.val (.ref a), .val (.int (1 : Int32)), .val (.int (1 : Int32))]) (hb hby d_prog_57_m_8_40) rfl rfl rfl rfl ?_
    refine g_goto X3 hx (q := 13) (hb hby d_prog_57_m_8_43) (by decide) (by decide) ?_
    refine g_iloadN X3 hx (hb hby d_prog_57_m_8_13) rfl rfl ?_
    refine g_iloadN X3 hx (hb hby d_prog_57_m_8_14) rfl rfl ?_
    refine g_icmpY X3 hx (q := 46) (hb hby d_prog_57_m_8_15) (XT.ii_ge_t (by decide : ¬ (1 : Int32) < (1 : Int32))) (by decide) (by decide) ?_
    refine g_iinc X3 hx (r := (2 : Int32)) (Ls' := #[.val (.ref a), .val (.int (2 : Int32)), .val (.int (1 : Int32))]) (hb hby d_prog_57_m_8_46) rfl rfl rfl rfl ?_
    refine g_goto X3 hx (q := 2) (hb hby d_prog_57_m_8_49) (by decide) (by decide) ?_
    refine g_iloadN X3 hx (hb hby d_prog_57_m_8_2) rfl rfl ?_
    refine g_aloadN X3 hx (hb hby d_prog_57_m_8_3) rfl rfl rfl ?_
    refine g_getF X3 hx hZ hown (host := "") (Or.inl (hw _ (List.mem_of_getElem? (i := 13) rfl))) Via.refl e3 F_tags_a (hb hby d_prog_57_m_8_4) rfl fun T5 X5 e5 => ?_
    refine g_len X5 hx hZ e5 V_x (hb hby d_prog_57_m_8_7) rfl ?_
    refine g_icmpN X5 hx (hb hby d_prog_57_m_8_8) rfl (XT.ii_ge_f (by decide : (2 : Int32) < (3 : Int32))) ?_
    refine g_iconst X5 hx (r := (0 : Int32)) (hb hby d_prog_57_m_8_11) rfl rfl ?_
    refine g_istoreN X5 hx (Ls' := #[.val (.ref a), .val (.int (2 : Int32)), .val (.int (0 : Int32))]) (hb hby d_prog_57_m_8_12) rfl rfl ?_
    refine g_iloadN X5 hx (hb hby d_prog_57_m_8_13) rfl rfl ?_
    refine g_iloadN X5 hx (hb hby d_prog_57_m_8_14) rfl rfl ?_
    refine g_icmpN X5 hx (hb hby d_prog_57_m_8_15) rfl (XT.ii_ge_f (by decide : (0 : Int32) < (2 : Int32))) ?_
    refine g_aloadN X5 hx (hb hby d_prog_57_m_8_18) rfl rfl rfl ?_
    refine g_getF X5 hx hZ hown (host := "") (Or.inl (hw _ (List.mem_of_getElem? (i := 13) rfl))) Via.refl e5 F_tags_a (hb hby d_prog_57_m_8_19) rfl fun T6 X6 e6 => ?_
    refine g_iloadN X6 hx (hb hby d_prog_57_m_8_22) rfl rfl ?_
    refine g_iaload X6 hx hZ e6 V_x (v := (.int t2)) ⟨by decide, by decide⟩ rfl (hb hby d_prog_57_m_8_23) rfl ?_
    refine g_aloadN X6 hx (hb hby d_prog_57_m_8_24) rfl rfl rfl ?_
    refine g_getF X6 hx hZ hown (host := "") (Or.inl (hw _ (List.mem_of_getElem? (i := 13) rfl))) Via.refl e6 F_tags_a (hb hby d_prog_57_m_8_25) rfl fun T7 X7 e7 => ?_
    refine g_iloadN X7 hx (hb hby d_prog_57_m_8_28) rfl rfl ?_
    refine g_iaload X7 hx hZ e7 V_x (v := (.int t0)) ⟨by decide, by decide⟩ rfl (hb hby d_prog_57_m_8_29) rfl ?_
    by_cases hc30_2 : t2 = t0
    · skip
      refine g_icmpN X7 hx (hb hby d_prog_57_m_8_30) rfl (XT.ii_ne_f hc30_2) ?_
      refine g_aloadN X7 hx (hb hby d_prog_57_m_8_33) rfl rfl rfl ?_
      refine g_getF X7 hx hZ hown (host := "") (Or.inl (hw _ (List.mem_of_getElem? (i := 13) rfl))) Via.refl e7 F_tags_a (hb hby d_prog_57_m_8_34) rfl fun T8 X8 e8 => ?_
      refine g_iloadN X8 hx (hb hby d_prog_57_m_8_37) rfl rfl ?_
      refine g_iaload X8 hx hZ e8 V_x (v := (.int t2)) ⟨by decide, by decide⟩ rfl (hb hby d_prog_57_m_8_38) rfl ?_
      exact g_retI X8 hx hret hlk (hb hby d_prog_57_m_8_39) (by decide) (by decide) (by rw [e8]; exact ⟨(by unfold own_e3; rw [if_neg hc30, if_pos hc30_2]), N0, rfl⟩)
    · skip
      refine g_icmpY X7 hx (q := 40) (hb hby d_prog_57_m_8_30) (XT.ii_ne_t hc30_2) (by decide) (by decide) ?_
      refine g_iinc X7 hx (r := (1 : Int32)) (Ls' := #[.val (.ref a), .val (.int (2 : Int32)), .val (.int (1 : Int32))]) (hb hby d_prog_57_m_8_40) rfl rfl rfl rfl ?_
      refine g_goto X7 hx (q := 13) (hb hby d_prog_57_m_8_43) (by decide) (by decide) ?_
      refine g_iloadN X7 hx (hb hby d_prog_57_m_8_13) rfl rfl ?_
      refine g_iloadN X7 hx (hb hby d_prog_57_m_8_14) rfl rfl ?_
      refine g_icmpN X7 hx (hb hby d_prog_57_m_8_15) rfl (XT.ii_ge_f (by decide : (1 : Int32) < (2 : Int32))) ?_
      refine g_aloadN X7 hx (hb hby d_prog_57_m_8_18) rfl rfl rfl ?_
      refine g_getF X7 hx hZ hown (host := "") (Or.inl (hw _ (List.mem_of_getElem? (i := 13) rfl))) Via.refl e7 F_tags_a (hb hby d_prog_57_m_8_19) rfl fun T9 X9 e9 => ?_
      refine g_iloadN X9 hx (hb hby d_prog_57_m_8_22) rfl rfl ?_
      refine g_iaload X9 hx hZ e9 V_x (v := (.int t2)) ⟨by decide, by decide⟩ rfl (hb hby d_prog_57_m_8_23) rfl ?_
      refine g_aloadN X9 hx (hb hby d_prog_57_m_8_24) rfl rfl rfl ?_
      refine g_getF X9 hx hZ hown (host := "") (Or.inl (hw _ (List.mem_of_getElem? (i := 13) rfl))) Via.refl e9 F_tags_a (hb hby d_prog_57_m_8_25) rfl fun T10 X10 e10 => ?_
      refine g_iloadN X10 hx (hb hby d_prog_57_m_8_28) rfl rfl ?_
      refine g_iaload X10 hx hZ e10 V_x (v := (.int t1)) ⟨by decide, by decide⟩ rfl (hb hby d_prog_57_m_8_29) rfl ?_
      by_cases hc30_3 : t2 = t1
      · skip
        refine g_icmpN X10 hx (hb hby d_prog_57_m_8_30) rfl (XT.ii_ne_f hc30_3) ?_
        refine g_aloadN X10 hx (hb hby d_prog_57_m_8_33) rfl rfl rfl ?_
        refine g_getF X10 hx hZ hown (host := "") (Or.inl (hw _ (List.mem_of_getElem? (i := 13) rfl))) Via.refl e10 F_tags_a (hb hby d_prog_57_m_8_34) rfl fun T11 X11 e11 => ?_
        refine g_iloadN X11 hx (hb hby d_prog_57_m_8_37) rfl rfl ?_
        refine g_iaload X11 hx hZ e11 V_x (v := (.int t2)) ⟨by decide, by decide⟩ rfl (hb hby d_prog_57_m_8_38) rfl ?_
        exact g_retI X11 hx hret hlk (hb hby d_prog_57_m_8_39) (by decide) (by decide) (by rw [e11]; exact ⟨(by unfold own_e3; rw [if_neg hc30, if_neg hc30_2, if_pos hc30_3]), N0, rfl⟩)
      · skip
        refine g_icmpY X10 hx (q := 40) (hb hby d_prog_57_m_8_30) (XT.ii_ne_t hc30_3) (by decide) (by decide) ?_
        refine g_iinc X10 hx (r := (2 : Int32)) (Ls' := #[.val (.ref a), .val (.int (2 : Int32)), .val (.int (2 : Int32))]) (hb hby d_prog_57_m_8_40) rfl rfl rfl rfl ?_
        refine g_goto X10 hx (q := 13) (hb hby d_prog_57_m_8_43) (by decide) (by decide) ?_
        refine g_iloadN X10 hx (hb hby d_prog_57_m_8_13) rfl rfl ?_
        refine g_iloadN X10 hx (hb hby d_prog_57_m_8_14) rfl rfl ?_
        refine g_icmpY X10 hx (q := 46) (hb hby d_prog_57_m_8_15) (XT.ii_ge_t (by decide : ¬ (2 : Int32) < (2 : Int32))) (by decide) (by decide) ?_
        refine g_iinc X10 hx (r := (3 : Int32)) (Ls' := #[.val (.ref a), .val (.int (3 : Int32)), .val (.int (2 : Int32))]) (hb hby d_prog_57_m_8_46) rfl rfl rfl rfl ?_
        refine g_goto X10 hx (q := 2) (hb hby d_prog_57_m_8_49) (by decide) (by decide) ?_
        refine g_iloadN X10 hx (hb hby d_prog_57_m_8_2) rfl rfl ?_
        refine g_aloadN X10 hx (hb hby d_prog_57_m_8_3) rfl rfl rfl ?_
        refine g_getF X10 hx hZ hown (host := "") (Or.inl (hw _ (List.mem_of_getElem? (i := 13) rfl))) Via.refl e10 F_tags_a (hb hby d_prog_57_m_8_4) rfl fun T12 X12 e12 => ?_
        refine g_len X12 hx hZ e12 V_x (hb hby d_prog_57_m_8_7) rfl ?_
        refine g_icmpY X12 hx (q := 52) (hb hby d_prog_57_m_8_8) (XT.ii_ge_t (by decide : ¬ (3 : Int32) < (3 : Int32))) (by decide) (by decide) ?_
        refine g_iconst X12 hx (r := (0 : Int32)) (hb hby d_prog_57_m_8_52) rfl rfl ?_
        exact g_retI X12 hx hret hlk (hb hby d_prog_57_m_8_53) (by decide) (by decide) (by rw [e12]; exact ⟨(by unfold own_e3; rw [if_neg hc30, if_neg hc30_2, if_neg hc30_3]), N0, rfl⟩)
def Q_rt4 (Z : State) (a : Addr) (x : Addr) (ka : ClassId) (t0 : Int32) (t1 : Int32) (t2 : Int32) (t3 : Int32) (h0 : Heap) (n0 : Nat) (v : Option Value) (h : Heap) (L : List Loc) : Prop := v = some (.int (own_e4 t0 t1 t2 t3)) ∧ Fr n0 L ∧ h = h0
theorem ef_rt4 (m : MethodId) (x0 : Addr) : entryFrame m #[(.ref x0)] 3 = mkF m 0 #[.val (.ref x0), .unset, .unset] [] := by first | (simp [entryFrame, mkF, argsToLocals, Value.category]; done) | rfl
set_option maxRecDepth 65536 in
set_option maxHeartbeats 40000000 in
theorem rm_rt4 (l : Launch) (Z : State) (a0 : Array Value) (hw : ∀ d ∈ tables_1, d.before a0 Z = true) (a : Addr) (x : Addr) (ka : ClassId) (t0 : Int32) (t1 : Int32) (t2 : Int32) (t3 : Int32) (h0 : Heap) (n0 : Nat) (Z0 : n0 ≤ h0.size) (F_tags_a : Fld Z h0 a "com/example/crosstide/crosstide/fix/FixMessage" "tags" "[I" (.ref x)) (V_x : Arv Z h0 x ka .int (4 : Int32) [(.int t0), (.int t1), (.int t2), (.int t3)] (.int (0 : Int32))) :
    Ct l Z (⟨"com/example/crosstide/crosstide/fix/FixMessage", "repeatedTag", "()I"⟩ : MethodName) prog_57_method_8_code 3 (some .int) [] ({ frames := 0, cells := 0, slots := 0, locals := 0 } : Room) #[(.ref a)] h0 (Q_rt4 Z a x ka t0 t1 t2 t3 h0 n0) := by
  refine own_body (plainFor_of_name pn_0) (fun m => ef_rt4 m a) ?_
  intro p e s m below meth c T0 hx hby hml hZ hown hnm hret hlk X0 e0
  have N0 := Fr.nil n0
  refine g_iconst X0 hx (r := (1 : Int32)) (hb hby d_prog_57_m_8_0) rfl rfl ?_
  refine g_istoreN X0 hx (Ls' := #[.val (.ref a), .val (.int (1 : Int32)), .unset]) (hb hby d_prog_57_m_8_1) rfl rfl ?_
  refine g_iloadN X0 hx (hb hby d_prog_57_m_8_2) rfl rfl ?_
  refine g_aloadN X0 hx (hb hby d_prog_57_m_8_3) rfl rfl rfl ?_
  refine g_getF X0 hx hZ hown (host := "") (Or.inl (hw _ (List.mem_of_getElem? (i := 13) rfl))) Via.refl e0 F_tags_a (hb hby d_prog_57_m_8_4) rfl fun T1 X1 e1 => ?_
  refine g_len X1 hx hZ e1 V_x (hb hby d_prog_57_m_8_7) rfl ?_
  refine g_icmpN X1 hx (hb hby d_prog_57_m_8_8) rfl (XT.ii_ge_f (by decide : (1 : Int32) < (4 : Int32))) ?_
  refine g_iconst X1 hx (r := (0 : Int32)) (hb hby d_prog_57_m_8_11) rfl rfl ?_
  refine g_istoreN X1 hx (Ls' := #[.val (.ref a), .val (.int (1 : Int32)), .val (.int (0 : Int32))]) (hb hby d_prog_57_m_8_12) rfl rfl ?_
  refine g_iloadN X1 hx (hb hby d_prog_57_m_8_13) rfl rfl ?_
  refine g_iloadN X1 hx (hb hby d_prog_57_m_8_14) rfl rfl ?_
  refine g_icmpN X1 hx (hb hby d_prog_57_m_8_15) rfl (XT.ii_ge_f (by decide : (0 : Int32) < (1 : Int32))) ?_
  refine g_aloadN X1 hx (hb hby d_prog_57_m_8_18) rfl rfl rfl ?_
  refine g_getF X1 hx hZ hown (host := "") (Or.inl (hw _ (List.mem_of_getElem? (i := 13) rfl))) Via.refl e1 F_tags_a (hb hby d_prog_57_m_8_19) rfl fun T2 X2 e2 => ?_
  refine g_iloadN X2 hx (hb hby d_prog_57_m_8_22) rfl rfl ?_
  refine g_iaload X2 hx hZ e2 V_x (v := (.int t1)) ⟨by decide, by decide⟩ rfl (hb hby d_prog_57_m_8_23) rfl ?_
  refine g_aloadN X2 hx (hb hby d_prog_57_m_8_24) rfl rfl rfl ?_
  refine g_getF X2 hx hZ hown (host := "") (Or.inl (hw _ (List.mem_of_getElem? (i := 13) rfl))) Via.refl e2 F_tags_a (hb hby d_prog_57_m_8_25) rfl fun T3 X3 e3 => ?_
  refine g_iloadN X3 hx (hb hby d_prog_57_m_8_28) rfl rfl ?_
  refine g_iaload X3 hx hZ e3 V_x (v := (.int t0)) ⟨by decide, by decide⟩ rfl (hb hby d_prog_57_m_8_29) rfl ?_
  by_cases hc30 : t1 = t0
  · skip
    refine g_icmpN X3 hx (hb hby d_prog_57_m_8_30) rfl (XT.ii_ne_f hc30) ?_
    refine g_aloadN X3 hx (hb hby d_prog_57_m_8_33) rfl rfl rfl ?_
    refine g_getF X3 hx hZ hown (host := "") (Or.inl (hw _ (List.mem_of_getElem? (i := 13) rfl))) Via.refl e3 F_tags_a (hb hby d_prog_57_m_8_34) rfl fun T4 X4 e4 => ?_
    refine g_iloadN X4 hx (hb hby d_prog_57_m_8_37) rfl rfl ?_
    refine g_iaload X4 hx hZ e4 V_x (v := (.int t1)) ⟨by decide, by decide⟩ rfl (hb hby d_prog_57_m_8_38) rfl ?_
    exact g_retI X4 hx hret hlk (hb hby d_prog_57_m_8_39) (by decide) (by decide) (by rw [e4]; exact ⟨(by unfold own_e4; rw [if_pos hc30]), N0, rfl⟩)
  · skip
    refine g_icmpY X3 hx (q := 40) (hb hby d_prog_57_m_8_30) (XT.ii_ne_t hc30) (by decide) (by decide) ?_
    refine g_iinc X3 hx (r := (1 : Int32)) (Ls' := #[.val (.ref a), .val (.int (1 : Int32)), .val (.int (1 : Int32))]) (hb hby d_prog_57_m_8_40) rfl rfl rfl rfl ?_
    refine g_goto X3 hx (q := 13) (hb hby d_prog_57_m_8_43) (by decide) (by decide) ?_
    refine g_iloadN X3 hx (hb hby d_prog_57_m_8_13) rfl rfl ?_
    refine g_iloadN X3 hx (hb hby d_prog_57_m_8_14) rfl rfl ?_
    refine g_icmpY X3 hx (q := 46) (hb hby d_prog_57_m_8_15) (XT.ii_ge_t (by decide : ¬ (1 : Int32) < (1 : Int32))) (by decide) (by decide) ?_
    refine g_iinc X3 hx (r := (2 : Int32)) (Ls' := #[.val (.ref a), .val (.int (2 : Int32)), .val (.int (1 : Int32))]) (hb hby d_prog_57_m_8_46) rfl rfl rfl rfl ?_
    refine g_goto X3 hx (q := 2) (hb hby d_prog_57_m_8_49) (by decide) (by decide) ?_
    refine g_iloadN X3 hx (hb hby d_prog_57_m_8_2) rfl rfl ?_
    refine g_aloadN X3 hx (hb hby d_prog_57_m_8_3) rfl rfl rfl ?_
    refine g_getF X3 hx hZ hown (host := "") (Or.inl (hw _ (List.mem_of_getElem? (i := 13) rfl))) Via.refl e3 F_tags_a (hb hby d_prog_57_m_8_4) rfl fun T5 X5 e5 => ?_
    refine g_len X5 hx hZ e5 V_x (hb hby d_prog_57_m_8_7) rfl ?_
    refine g_icmpN X5 hx (hb hby d_prog_57_m_8_8) rfl (XT.ii_ge_f (by decide : (2 : Int32) < (4 : Int32))) ?_
    refine g_iconst X5 hx (r := (0 : Int32)) (hb hby d_prog_57_m_8_11) rfl rfl ?_
    refine g_istoreN X5 hx (Ls' := #[.val (.ref a), .val (.int (2 : Int32)), .val (.int (0 : Int32))]) (hb hby d_prog_57_m_8_12) rfl rfl ?_
    refine g_iloadN X5 hx (hb hby d_prog_57_m_8_13) rfl rfl ?_
    refine g_iloadN X5 hx (hb hby d_prog_57_m_8_14) rfl rfl ?_
    refine g_icmpN X5 hx (hb hby d_prog_57_m_8_15) rfl (XT.ii_ge_f (by decide : (0 : Int32) < (2 : Int32))) ?_
    refine g_aloadN X5 hx (hb hby d_prog_57_m_8_18) rfl rfl rfl ?_
    refine g_getF X5 hx hZ hown (host := "") (Or.inl (hw _ (List.mem_of_getElem? (i := 13) rfl))) Via.refl e5 F_tags_a (hb hby d_prog_57_m_8_19) rfl fun T6 X6 e6 => ?_
    refine g_iloadN X6 hx (hb hby d_prog_57_m_8_22) rfl rfl ?_
    refine g_iaload X6 hx hZ e6 V_x (v := (.int t2)) ⟨by decide, by decide⟩ rfl (hb hby d_prog_57_m_8_23) rfl ?_
    refine g_aloadN X6 hx (hb hby d_prog_57_m_8_24) rfl rfl rfl ?_
    refine g_getF X6 hx hZ hown (host := "") (Or.inl (hw _ (List.mem_of_getElem? (i := 13) rfl))) Via.refl e6 F_tags_a (hb hby d_prog_57_m_8_25) rfl fun T7 X7 e7 => ?_
    refine g_iloadN X7 hx (hb hby d_prog_57_m_8_28) rfl rfl ?_
    refine g_iaload X7 hx hZ e7 V_x (v := (.int t0)) ⟨by decide, by decide⟩ rfl (hb hby d_prog_57_m_8_29) rfl ?_
    by_cases hc30_2 : t2 = t0
    · skip
      refine g_icmpN X7 hx (hb hby d_prog_57_m_8_30) rfl (XT.ii_ne_f hc30_2) ?_
      refine g_aloadN X7 hx (hb hby d_prog_57_m_8_33) rfl rfl rfl ?_
      refine g_getF X7 hx hZ hown (host := "") (Or.inl (hw _ (List.mem_of_getElem? (i := 13) rfl))) Via.refl e7 F_tags_a (hb hby d_prog_57_m_8_34) rfl fun T8 X8 e8 => ?_
      refine g_iloadN X8 hx (hb hby d_prog_57_m_8_37) rfl rfl ?_
      refine g_iaload X8 hx hZ e8 V_x (v := (.int t2)) ⟨by decide, by decide⟩ rfl (hb hby d_prog_57_m_8_38) rfl ?_
      exact g_retI X8 hx hret hlk (hb hby d_prog_57_m_8_39) (by decide) (by decide) (by rw [e8]; exact ⟨(by unfold own_e4; rw [if_neg hc30, if_pos hc30_2]), N0, rfl⟩)
    · skip
      refine g_icmpY X7 hx (q := 40) (hb hby d_prog_57_m_8_30) (XT.ii_ne_t hc30_2) (by decide) (by decide) ?_
      refine g_iinc X7 hx (r := (1 : Int32)) (Ls' := #[.val (.ref a), .val (.int (2 : Int32)), .val (.int (1 : Int32))]) (hb hby d_prog_57_m_8_40) rfl rfl rfl rfl ?_
      refine g_goto X7 hx (q := 13) (hb hby d_prog_57_m_8_43) (by decide) (by decide) ?_
      refine g_iloadN X7 hx (hb hby d_prog_57_m_8_13) rfl rfl ?_
      refine g_iloadN X7 hx (hb hby d_prog_57_m_8_14) rfl rfl ?_
      refine g_icmpN X7 hx (hb hby d_prog_57_m_8_15) rfl (XT.ii_ge_f (by decide : (1 : Int32) < (2 : Int32))) ?_
      refine g_aloadN X7 hx (hb hby d_prog_57_m_8_18) rfl rfl rfl ?_
      refine g_getF X7 hx hZ hown (host := "") (Or.inl (hw _ (List.mem_of_getElem? (i := 13) rfl))) Via.refl e7 F_tags_a (hb hby d_prog_57_m_8_19) rfl fun T9 X9 e9 => ?_
      refine g_iloadN X9 hx (hb hby d_prog_57_m_8_22) rfl rfl ?_
      refine g_iaload X9 hx hZ e9 V_x (v := (.int t2)) ⟨by decide, by decide⟩ rfl (hb hby d_prog_57_m_8_23) rfl ?_
      refine g_aloadN X9 hx (hb hby d_prog_57_m_8_24) rfl rfl rfl ?_
      refine g_getF X9 hx hZ hown (host := "") (Or.inl (hw _ (List.mem_of_getElem? (i := 13) rfl))) Via.refl e9 F_tags_a (hb hby d_prog_57_m_8_25) rfl fun T10 X10 e10 => ?_
      refine g_iloadN X10 hx (hb hby d_prog_57_m_8_28) rfl rfl ?_
      refine g_iaload X10 hx hZ e10 V_x (v := (.int t1)) ⟨by decide, by decide⟩ rfl (hb hby d_prog_57_m_8_29) rfl ?_
      by_cases hc30_3 : t2 = t1
      · skip
        refine g_icmpN X10 hx (hb hby d_prog_57_m_8_30) rfl (XT.ii_ne_f hc30_3) ?_
        refine g_aloadN X10 hx (hb hby d_prog_57_m_8_33) rfl rfl rfl ?_
        refine g_getF X10 hx hZ hown (host := "") (Or.inl (hw _ (List.mem_of_getElem? (i := 13) rfl))) Via.refl e10 F_tags_a (hb hby d_prog_57_m_8_34) rfl fun T11 X11 e11 => ?_
        refine g_iloadN X11 hx (hb hby d_prog_57_m_8_37) rfl rfl ?_
        refine g_iaload X11 hx hZ e11 V_x (v := (.int t2)) ⟨by decide, by decide⟩ rfl (hb hby d_prog_57_m_8_38) rfl ?_
        exact g_retI X11 hx hret hlk (hb hby d_prog_57_m_8_39) (by decide) (by decide) (by rw [e11]; exact ⟨(by unfold own_e4; rw [if_neg hc30, if_neg hc30_2, if_pos hc30_3]), N0, rfl⟩)
      · skip
        refine g_icmpY X10 hx (q := 40) (hb hby d_prog_57_m_8_30) (XT.ii_ne_t hc30_3) (by decide) (by decide) ?_
        refine g_iinc X10 hx (r := (2 : Int32)) (Ls' := #[.val (.ref a), .val (.int (2 : Int32)), .val (.int (2 : Int32))]) (hb hby d_prog_57_m_8_40) rfl rfl rfl rfl ?_
        refine g_goto X10 hx (q := 13) (hb hby d_prog_57_m_8_43) (by decide) (by decide) ?_
        refine g_iloadN X10 hx (hb hby d_prog_57_m_8_13) rfl rfl ?_
        refine g_iloadN X10 hx (hb hby d_prog_57_m_8_14) rfl rfl ?_
        refine g_icmpY X10 hx (q := 46) (hb hby d_prog_57_m_8_15) (XT.ii_ge_t (by decide : ¬ (2 : Int32) < (2 : Int32))) (by decide) (by decide) ?_
        refine g_iinc X10 hx (r := (3 : Int32)) (Ls' := #[.val (.ref a), .val (.int (3 : Int32)), .val (.int (2 : Int32))]) (hb hby d_prog_57_m_8_46) rfl rfl rfl rfl ?_
        refine g_goto X10 hx (q := 2) (hb hby d_prog_57_m_8_49) (by decide) (by decide) ?_
        refine g_iloadN X10 hx (hb hby d_prog_57_m_8_2) rfl rfl ?_
        refine g_aloadN X10 hx (hb hby d_prog_57_m_8_3) rfl rfl rfl ?_
        refine g_getF X10 hx hZ hown (host := "") (Or.inl (hw _ (List.mem_of_getElem? (i := 13) rfl))) Via.refl e10 F_tags_a (hb hby d_prog_57_m_8_4) rfl fun T12 X12 e12 => ?_
        refine g_len X12 hx hZ e12 V_x (hb hby d_prog_57_m_8_7) rfl ?_
        refine g_icmpN X12 hx (hb hby d_prog_57_m_8_8) rfl (XT.ii_ge_f (by decide : (3 : Int32) < (4 : Int32))) ?_
        refine g_iconst X12 hx (r := (0 : Int32)) (hb hby d_prog_57_m_8_11) rfl rfl ?_
        refine g_istoreN X12 hx (Ls' := #[.val (.ref a), .val (.int (3 : Int32)), .val (.int (0 : Int32))]) (hb hby d_prog_57_m_8_12) rfl rfl ?_
        refine g_iloadN X12 hx (hb hby d_prog_57_m_8_13) rfl rfl ?_
        refine g_iloadN X12 hx (hb hby d_prog_57_m_8_14) rfl rfl ?_
        refine g_icmpN X12 hx (hb hby d_prog_57_m_8_15) rfl (XT.ii_ge_f (by decide : (0 : Int32) < (3 : Int32))) ?_
        refine g_aloadN X12 hx (hb hby d_prog_57_m_8_18) rfl rfl rfl ?_
        refine g_getF X12 hx hZ hown (host := "") (Or.inl (hw _ (List.mem_of_getElem? (i := 13) rfl))) Via.refl e12 F_tags_a (hb hby d_prog_57_m_8_19) rfl fun T13 X13 e13 => ?_
        refine g_iloadN X13 hx (hb hby d_prog_57_m_8_22) rfl rfl ?_
        refine g_iaload X13 hx hZ e13 V_x (v := (.int t3)) ⟨by decide, by decide⟩ rfl (hb hby d_prog_57_m_8_23) rfl ?_
        refine g_aloadN X13 hx (hb hby d_prog_57_m_8_24) rfl rfl rfl ?_
        refine g_getF X13 hx hZ hown (host := "") (Or.inl (hw _ (List.mem_of_getElem? (i := 13) rfl))) Via.refl e13 F_tags_a (hb hby d_prog_57_m_8_25) rfl fun T14 X14 e14 => ?_
        refine g_iloadN X14 hx (hb hby d_prog_57_m_8_28) rfl rfl ?_
        refine g_iaload X14 hx hZ e14 V_x (v := (.int t0)) ⟨by decide, by decide⟩ rfl (hb hby d_prog_57_m_8_29) rfl ?_
        by_cases hc30_4 : t3 = t0
        · skip
          refine g_icmpN X14 hx (hb hby d_prog_57_m_8_30) rfl (XT.ii_ne_f hc30_4) ?_
          refine g_aloadN X14 hx (hb hby d_prog_57_m_8_33) rfl rfl rfl ?_
          refine g_getF X14 hx hZ hown (host := "") (Or.inl (hw _ (List.mem_of_getElem? (i := 13) rfl))) Via.refl e14 F_tags_a (hb hby d_prog_57_m_8_34) rfl fun T15 X15 e15 => ?_
          refine g_iloadN X15 hx (hb hby d_prog_57_m_8_37) rfl rfl ?_
          refine g_iaload X15 hx hZ e15 V_x (v := (.int t3)) ⟨by decide, by decide⟩ rfl (hb hby d_prog_57_m_8_38) rfl ?_
          exact g_retI X15 hx hret hlk (hb hby d_prog_57_m_8_39) (by decide) (by decide) (by rw [e15]; exact ⟨(by unfold own_e4; rw [if_neg hc30, if_neg hc30_2, if_neg hc30_3, if_pos hc30_4]), N0, rfl⟩)
        · skip
          refine g_icmpY X14 hx (q := 40) (hb hby d_prog_57_m_8_30) (XT.ii_ne_t hc30_4) (by decide) (by decide) ?_
          refine g_iinc X14 hx (r := (1 : Int32)) (Ls' := #[.val (.ref a), .val (.int (3 : Int32)), .val (.int (1 : Int32))]) (hb hby d_prog_57_m_8_40) rfl rfl rfl rfl ?_
          refine g_goto X14 hx (q := 13) (hb hby d_prog_57_m_8_43) (by decide) (by decide) ?_
          refine g_iloadN X14 hx (hb hby d_prog_57_m_8_13) rfl rfl ?_
          refine g_iloadN X14 hx (hb hby d_prog_57_m_8_14) rfl rfl ?_
          refine g_icmpN X14 hx (hb hby d_prog_57_m_8_15) rfl (XT.ii_ge_f (by decide : (1 : Int32) < (3 : Int32))) ?_
          refine g_aloadN X14 hx (hb hby d_prog_57_m_8_18) rfl rfl rfl ?_
          refine g_getF X14 hx hZ hown (host := "") (Or.inl (hw _ (List.mem_of_getElem? (i := 13) rfl))) Via.refl e14 F_tags_a (hb hby d_prog_57_m_8_19) rfl fun T16 X16 e16 => ?_
          refine g_iloadN X16 hx (hb hby d_prog_57_m_8_22) rfl rfl ?_
          refine g_iaload X16 hx hZ e16 V_x (v := (.int t3)) ⟨by decide, by decide⟩ rfl (hb hby d_prog_57_m_8_23) rfl ?_
          refine g_aloadN X16 hx (hb hby d_prog_57_m_8_24) rfl rfl rfl ?_
          refine g_getF X16 hx hZ hown (host := "") (Or.inl (hw _ (List.mem_of_getElem? (i := 13) rfl))) Via.refl e16 F_tags_a (hb hby d_prog_57_m_8_25) rfl fun T17 X17 e17 => ?_
          refine g_iloadN X17 hx (hb hby d_prog_57_m_8_28) rfl rfl ?_
          refine g_iaload X17 hx hZ e17 V_x (v := (.int t1)) ⟨by decide, by decide⟩ rfl (hb hby d_prog_57_m_8_29) rfl ?_
          by_cases hc30_5 : t3 = t1
          · skip
            refine g_icmpN X17 hx (hb hby d_prog_57_m_8_30) rfl (XT.ii_ne_f hc30_5) ?_
            refine g_aloadN X17 hx (hb hby d_prog_57_m_8_33) rfl rfl rfl ?_
            refine g_getF X17 hx hZ hown (host := "") (Or.inl (hw _ (List.mem_of_getElem? (i := 13) rfl))) Via.refl e17 F_tags_a (hb hby d_prog_57_m_8_34) rfl fun T18 X18 e18 => ?_
            refine g_iloadN X18 hx (hb hby d_prog_57_m_8_37) rfl rfl ?_
            refine g_iaload X18 hx hZ e18 V_x (v := (.int t3)) ⟨by decide, by decide⟩ rfl (hb hby d_prog_57_m_8_38) rfl ?_
            exact g_retI X18 hx hret hlk (hb hby d_prog_57_m_8_39) (by decide) (by decide) (by rw [e18]; exact ⟨(by unfold own_e4; rw [if_neg hc30, if_neg hc30_2, if_neg hc30_3, if_neg hc30_4, if_pos hc30_5]), N0, rfl⟩)
          · skip
            refine g_icmpY X17 hx (q := 40) (hb hby d_prog_57_m_8_30) (XT.ii_ne_t hc30_5) (by decide) (by decide) ?_
            refine g_iinc X17 hx (r := (2 : Int32)) (Ls' := #[.val (.ref a), .val (.int (3 : Int32)), .val (.int (2 : Int32))]) (hb hby d_prog_57_m_8_40) rfl rfl rfl rfl ?_
            refine g_goto X17 hx (q := 13) (hb hby d_prog_57_m_8_43) (by decide) (by decide) ?_
            refine g_iloadN X17 hx (hb hby d_prog_57_m_8_13) rfl rfl ?_
            refine g_iloadN X17 hx (hb hby d_prog_57_m_8_14) rfl rfl ?_
            refine g_icmpN X17 hx (hb hby d_prog_57_m_8_15) rfl (XT.ii_ge_f (by decide : (2 : Int32) < (3 : Int32))) ?_
            refine g_aloadN X17 hx (hb hby d_prog_57_m_8_18) rfl rfl rfl ?_
            refine g_getF X17 hx hZ hown (host := "") (Or.inl (hw _ (List.mem_of_getElem? (i := 13) rfl))) Via.refl e17 F_tags_a (hb hby d_prog_57_m_8_19) rfl fun T19 X19 e19 => ?_
            refine g_iloadN X19 hx (hb hby d_prog_57_m_8_22) rfl rfl ?_
            refine g_iaload X19 hx hZ e19 V_x (v := (.int t3)) ⟨by decide, by decide⟩ rfl (hb hby d_prog_57_m_8_23) rfl ?_
            refine g_aloadN X19 hx (hb hby d_prog_57_m_8_24) rfl rfl rfl ?_
            refine g_getF X19 hx hZ hown (host := "") (Or.inl (hw _ (List.mem_of_getElem? (i := 13) rfl))) Via.refl e19 F_tags_a (hb hby d_prog_57_m_8_25) rfl fun T20 X20 e20 => ?_
            refine g_iloadN X20 hx (hb hby d_prog_57_m_8_28) rfl rfl ?_
            refine g_iaload X20 hx hZ e20 V_x (v := (.int t2)) ⟨by decide, by decide⟩ rfl (hb hby d_prog_57_m_8_29) rfl ?_
            by_cases hc30_6 : t3 = t2
            · skip
              refine g_icmpN X20 hx (hb hby d_prog_57_m_8_30) rfl (XT.ii_ne_f hc30_6) ?_
              refine g_aloadN X20 hx (hb hby d_prog_57_m_8_33) rfl rfl rfl ?_
              refine g_getF X20 hx hZ hown (host := "") (Or.inl (hw _ (List.mem_of_getElem? (i := 13) rfl))) Via.refl e20 F_tags_a (hb hby d_prog_57_m_8_34) rfl fun T21 X21 e21 => ?_
              refine g_iloadN X21 hx (hb hby d_prog_57_m_8_37) rfl rfl ?_
              refine g_iaload X21 hx hZ e21 V_x (v := (.int t3)) ⟨by decide, by decide⟩ rfl (hb hby d_prog_57_m_8_38) rfl ?_
              exact g_retI X21 hx hret hlk (hb hby d_prog_57_m_8_39) (by decide) (by decide) (by rw [e21]; exact ⟨(by unfold own_e4; rw [if_neg hc30, if_neg hc30_2, if_neg hc30_3, if_neg hc30_4, if_neg hc30_5, if_pos hc30_6]), N0, rfl⟩)
            · skip
              refine g_icmpY X20 hx (q := 40) (hb hby d_prog_57_m_8_30) (XT.ii_ne_t hc30_6) (by decide) (by decide) ?_
              refine g_iinc X20 hx (r := (3 : Int32)) (Ls' := #[.val (.ref a), .val (.int (3 : Int32)), .val (.int (3 : Int32))]) (hb hby d_prog_57_m_8_40) rfl rfl rfl rfl ?_
              refine g_goto X20 hx (q := 13) (hb hby d_prog_57_m_8_43) (by decide) (by decide) ?_
              refine g_iloadN X20 hx (hb hby d_prog_57_m_8_13) rfl rfl ?_
              refine g_iloadN X20 hx (hb hby d_prog_57_m_8_14) rfl rfl ?_
              refine g_icmpY X20 hx (q := 46) (hb hby d_prog_57_m_8_15) (XT.ii_ge_t (by decide : ¬ (3 : Int32) < (3 : Int32))) (by decide) (by decide) ?_
              refine g_iinc X20 hx (r := (4 : Int32)) (Ls' := #[.val (.ref a), .val (.int (4 : Int32)), .val (.int (3 : Int32))]) (hb hby d_prog_57_m_8_46) rfl rfl rfl rfl ?_
              refine g_goto X20 hx (q := 2) (hb hby d_prog_57_m_8_49) (by decide) (by decide) ?_
              refine g_iloadN X20 hx (hb hby d_prog_57_m_8_2) rfl rfl ?_
              refine g_aloadN X20 hx (hb hby d_prog_57_m_8_3) rfl rfl rfl ?_
              refine g_getF X20 hx hZ hown (host := "") (Or.inl (hw _ (List.mem_of_getElem? (i := 13) rfl))) Via.refl e20 F_tags_a (hb hby d_prog_57_m_8_4) rfl fun T22 X22 e22 => ?_
              refine g_len X22 hx hZ e22 V_x (hb hby d_prog_57_m_8_7) rfl ?_
              refine g_icmpY X22 hx (q := 52) (hb hby d_prog_57_m_8_8) (XT.ii_ge_t (by decide : ¬ (4 : Int32) < (4 : Int32))) (by decide) (by decide) ?_
              refine g_iconst X22 hx (r := (0 : Int32)) (hb hby d_prog_57_m_8_52) rfl rfl ?_
              exact g_retI X22 hx hret hlk (hb hby d_prog_57_m_8_53) (by decide) (by decide) (by rw [e22]; exact ⟨(by unfold own_e4; rw [if_neg hc30, if_neg hc30_2, if_neg hc30_3, if_neg hc30_4, if_neg hc30_5, if_neg hc30_6]), N0, rfl⟩)
def Q_rt5 (Z : State) (a : Addr) (x : Addr) (ka : ClassId) (t0 : Int32) (t1 : Int32) (t2 : Int32) (t3 : Int32) (t4 : Int32) (h0 : Heap) (n0 : Nat) (v : Option Value) (h : Heap) (L : List Loc) : Prop := v = some (.int (own_e5 t0 t1 t2 t3 t4)) ∧ Fr n0 L ∧ h = h0
theorem ef_rt5 (m : MethodId) (x0 : Addr) : entryFrame m #[(.ref x0)] 3 = mkF m 0 #[.val (.ref x0), .unset, .unset] [] := by first | (simp [entryFrame, mkF, argsToLocals, Value.category]; done) | rfl
set_option maxRecDepth 65536 in
set_option maxHeartbeats 40000000 in
theorem rm_rt5 (l : Launch) (Z : State) (a0 : Array Value) (hw : ∀ d ∈ tables_1, d.before a0 Z = true) (a : Addr) (x : Addr) (ka : ClassId) (t0 : Int32) (t1 : Int32) (t2 : Int32) (t3 : Int32) (t4 : Int32) (h0 : Heap) (n0 : Nat) (Z0 : n0 ≤ h0.size) (F_tags_a : Fld Z h0 a "com/example/crosstide/crosstide/fix/FixMessage" "tags" "[I" (.ref x)) (V_x : Arv Z h0 x ka .int (5 : Int32) [(.int t0), (.int t1), (.int t2), (.int t3), (.int t4)] (.int (0 : Int32))) :
    Ct l Z (⟨"com/example/crosstide/crosstide/fix/FixMessage", "repeatedTag", "()I"⟩ : MethodName) prog_57_method_8_code 3 (some .int) [] ({ frames := 0, cells := 0, slots := 0, locals := 0 } : Room) #[(.ref a)] h0 (Q_rt5 Z a x ka t0 t1 t2 t3 t4 h0 n0) := by
  refine own_body (plainFor_of_name pn_0) (fun m => ef_rt5 m a) ?_
  intro p e s m below meth c T0 hx hby hml hZ hown hnm hret hlk X0 e0
  have N0 := Fr.nil n0
  refine g_iconst X0 hx (r := (1 : Int32)) (hb hby d_prog_57_m_8_0) rfl rfl ?_
  refine g_istoreN X0 hx (Ls' := #[.val (.ref a), .val (.int (1 : Int32)), .unset]) (hb hby d_prog_57_m_8_1) rfl rfl ?_
  refine g_iloadN X0 hx (hb hby d_prog_57_m_8_2) rfl rfl ?_
  refine g_aloadN X0 hx (hb hby d_prog_57_m_8_3) rfl rfl rfl ?_
  refine g_getF X0 hx hZ hown (host := "") (Or.inl (hw _ (List.mem_of_getElem? (i := 13) rfl))) Via.refl e0 F_tags_a (hb hby d_prog_57_m_8_4) rfl fun T1 X1 e1 => ?_
  refine g_len X1 hx hZ e1 V_x (hb hby d_prog_57_m_8_7) rfl ?_
  refine g_icmpN X1 hx (hb hby d_prog_57_m_8_8) rfl (XT.ii_ge_f (by decide : (1 : Int32) < (5 : Int32))) ?_
  refine g_iconst X1 hx (r := (0 : Int32)) (hb hby d_prog_57_m_8_11) rfl rfl ?_
  refine g_istoreN X1 hx (Ls' := #[.val (.ref a), .val (.int (1 : Int32)), .val (.int (0 : Int32))]) (hb hby d_prog_57_m_8_12) rfl rfl ?_
  refine g_iloadN X1 hx (hb hby d_prog_57_m_8_13) rfl rfl ?_
  refine g_iloadN X1 hx (hb hby d_prog_57_m_8_14) rfl rfl ?_
  refine g_icmpN X1 hx (hb hby d_prog_57_m_8_15) rfl (XT.ii_ge_f (by decide : (0 : Int32) < (1 : Int32))) ?_
  refine g_aloadN X1 hx (hb hby d_prog_57_m_8_18) rfl rfl rfl ?_
  refine g_getF X1 hx hZ hown (host := "") (Or.inl (hw _ (List.mem_of_getElem? (i := 13) rfl))) Via.refl e1 F_tags_a (hb hby d_prog_57_m_8_19) rfl fun T2 X2 e2 => ?_
  refine g_iloadN X2 hx (hb hby d_prog_57_m_8_22) rfl rfl ?_
  refine g_iaload X2 hx hZ e2 V_x (v := (.int t1)) ⟨by decide, by decide⟩ rfl (hb hby d_prog_57_m_8_23) rfl ?_
  refine g_aloadN X2 hx (hb hby d_prog_57_m_8_24) rfl rfl rfl ?_
  refine g_getF X2 hx hZ hown (host := "") (Or.inl (hw _ (List.mem_of_getElem? (i := 13) rfl))) Via.refl e2 F_tags_a (hb hby d_prog_57_m_8_25) rfl fun T3 X3 e3 => ?_
  refine g_iloadN X3 hx (hb hby d_prog_57_m_8_28) rfl rfl ?_
  refine g_iaload X3 hx hZ e3 V_x (v := (.int t0)) ⟨by decide, by decide⟩ rfl (hb hby d_prog_57_m_8_29) rfl ?_
  by_cases hc30 : t1 = t0
  · skip
    refine g_icmpN X3 hx (hb hby d_prog_57_m_8_30) rfl (XT.ii_ne_f hc30) ?_
    refine g_aloadN X3 hx (hb hby d_prog_57_m_8_33) rfl rfl rfl ?_
    refine g_getF X3 hx hZ hown (host := "") (Or.inl (hw _ (List.mem_of_getElem? (i := 13) rfl))) Via.refl e3 F_tags_a (hb hby d_prog_57_m_8_34) rfl fun T4 X4 e4 => ?_
    refine g_iloadN X4 hx (hb hby d_prog_57_m_8_37) rfl rfl ?_
    refine g_iaload X4 hx hZ e4 V_x (v := (.int t1)) ⟨by decide, by decide⟩ rfl (hb hby d_prog_57_m_8_38) rfl ?_
    exact g_retI X4 hx hret hlk (hb hby d_prog_57_m_8_39) (by decide) (by decide) (by rw [e4]; exact ⟨(by unfold own_e5; rw [if_pos hc30]), N0, rfl⟩)
  · skip
    refine g_icmpY X3 hx (q := 40) (hb hby d_prog_57_m_8_30) (XT.ii_ne_t hc30) (by decide) (by decide) ?_
    refine g_iinc X3 hx (r := (1 : Int32)) (Ls' := #[.val (.ref a), .val (.int (1 : Int32)), .val (.int (1 : Int32))]) (hb hby d_prog_57_m_8_40) rfl rfl rfl rfl ?_
    refine g_goto X3 hx (q := 13) (hb hby d_prog_57_m_8_43) (by decide) (by decide) ?_
    refine g_iloadN X3 hx (hb hby d_prog_57_m_8_13) rfl rfl ?_
    refine g_iloadN X3 hx (hb hby d_prog_57_m_8_14) rfl rfl ?_
    refine g_icmpY X3 hx (q := 46) (hb hby d_prog_57_m_8_15) (XT.ii_ge_t (by decide : ¬ (1 : Int32) < (1 : Int32))) (by decide) (by decide) ?_
    refine g_iinc X3 hx (r := (2 : Int32)) (Ls' := #[.val (.ref a), .val (.int (2 : Int32)), .val (.int (1 : Int32))]) (hb hby d_prog_57_m_8_46) rfl rfl rfl rfl ?_
    refine g_goto X3 hx (q := 2) (hb hby d_prog_57_m_8_49) (by decide) (by decide) ?_
    refine g_iloadN X3 hx (hb hby d_prog_57_m_8_2) rfl rfl ?_
    refine g_aloadN X3 hx (hb hby d_prog_57_m_8_3) rfl rfl rfl ?_
    refine g_getF X3 hx hZ hown (host := "") (Or.inl (hw _ (List.mem_of_getElem? (i := 13) rfl))) Via.refl e3 F_tags_a (hb hby d_prog_57_m_8_4) rfl fun T5 X5 e5 => ?_
    refine g_len X5 hx hZ e5 V_x (hb hby d_prog_57_m_8_7) rfl ?_
    refine g_icmpN X5 hx (hb hby d_prog_57_m_8_8) rfl (XT.ii_ge_f (by decide : (2 : Int32) < (5 : Int32))) ?_
    refine g_iconst X5 hx (r := (0 : Int32)) (hb hby d_prog_57_m_8_11) rfl rfl ?_
    refine g_istoreN X5 hx (Ls' := #[.val (.ref a), .val (.int (2 : Int32)), .val (.int (0 : Int32))]) (hb hby d_prog_57_m_8_12) rfl rfl ?_
    refine g_iloadN X5 hx (hb hby d_prog_57_m_8_13) rfl rfl ?_
    refine g_iloadN X5 hx (hb hby d_prog_57_m_8_14) rfl rfl ?_
    refine g_icmpN X5 hx (hb hby d_prog_57_m_8_15) rfl (XT.ii_ge_f (by decide : (0 : Int32) < (2 : Int32))) ?_
    refine g_aloadN X5 hx (hb hby d_prog_57_m_8_18) rfl rfl rfl ?_
    refine g_getF X5 hx hZ hown (host := "") (Or.inl (hw _ (List.mem_of_getElem? (i := 13) rfl))) Via.refl e5 F_tags_a (hb hby d_prog_57_m_8_19) rfl fun T6 X6 e6 => ?_
    refine g_iloadN X6 hx (hb hby d_prog_57_m_8_22) rfl rfl ?_
    refine g_iaload X6 hx hZ e6 V_x (v := (.int t2)) ⟨by decide, by decide⟩ rfl (hb hby d_prog_57_m_8_23) rfl ?_
    refine g_aloadN X6 hx (hb hby d_prog_57_m_8_24) rfl rfl rfl ?_
    refine g_getF X6 hx hZ hown (host := "") (Or.inl (hw _ (List.mem_of_getElem? (i := 13) rfl))) Via.refl e6 F_tags_a (hb hby d_prog_57_m_8_25) rfl fun T7 X7 e7 => ?_
    refine g_iloadN X7 hx (hb hby d_prog_57_m_8_28) rfl rfl ?_
    refine g_iaload X7 hx hZ e7 V_x (v := (.int t0)) ⟨by decide, by decide⟩ rfl (hb hby d_prog_57_m_8_29) rfl ?_
    by_cases hc30_2 : t2 = t0
    · skip
      refine g_icmpN X7 hx (hb hby d_prog_57_m_8_30) rfl (XT.ii_ne_f hc30_2) ?_
      refine g_aloadN X7 hx (hb hby d_prog_57_m_8_33) rfl rfl rfl ?_
      refine g_getF X7 hx hZ hown (host := "") (Or.inl (hw _ (List.mem_of_getElem? (i := 13) rfl))) Via.refl e7 F_tags_a (hb hby d_prog_57_m_8_34) rfl fun T8 X8 e8 => ?_
      refine g_iloadN X8 hx (hb hby d_prog_57_m_8_37) rfl rfl ?_
      refine g_iaload X8 hx hZ e8 V_x (v := (.int t2)) ⟨by decide, by decide⟩ rfl (hb hby d_prog_57_m_8_38) rfl ?_
      exact g_retI X8 hx hret hlk (hb hby d_prog_57_m_8_39) (by decide) (by decide) (by rw [e8]; exact ⟨(by unfold own_e5; rw [if_neg hc30, if_pos hc30_2]), N0, rfl⟩)
    · skip
      refine g_icmpY X7 hx (q := 40) (hb hby d_prog_57_m_8_30) (XT.ii_ne_t hc30_2) (by decide) (by decide) ?_
      refine g_iinc X7 hx (r := (1 : Int32)) (Ls' := #[.val (.ref a), .val (.int (2 : Int32)), .val (.int (1 : Int32))]) (hb hby d_prog_57_m_8_40) rfl rfl rfl rfl ?_
      refine g_goto X7 hx (q := 13) (hb hby d_prog_57_m_8_43) (by decide) (by decide) ?_
      refine g_iloadN X7 hx (hb hby d_prog_57_m_8_13) rfl rfl ?_
      refine g_iloadN X7 hx (hb hby d_prog_57_m_8_14) rfl rfl ?_
      refine g_icmpN X7 hx (hb hby d_prog_57_m_8_15) rfl (XT.ii_ge_f (by decide : (1 : Int32) < (2 : Int32))) ?_
      refine g_aloadN X7 hx (hb hby d_prog_57_m_8_18) rfl rfl rfl ?_
      refine g_getF X7 hx hZ hown (host := "") (Or.inl (hw _ (List.mem_of_getElem? (i := 13) rfl))) Via.refl e7 F_tags_a (hb hby d_prog_57_m_8_19) rfl fun T9 X9 e9 => ?_
      refine g_iloadN X9 hx (hb hby d_prog_57_m_8_22) rfl rfl ?_
      refine g_iaload X9 hx hZ e9 V_x (v := (.int t2)) ⟨by decide, by decide⟩ rfl (hb hby d_prog_57_m_8_23) rfl ?_
      refine g_aloadN X9 hx (hb hby d_prog_57_m_8_24) rfl rfl rfl ?_
      refine g_getF X9 hx hZ hown (host := "") (Or.inl (hw _ (List.mem_of_getElem? (i := 13) rfl))) Via.refl e9 F_tags_a (hb hby d_prog_57_m_8_25) rfl fun T10 X10 e10 => ?_
      refine g_iloadN X10 hx (hb hby d_prog_57_m_8_28) rfl rfl ?_
      refine g_iaload X10 hx hZ e10 V_x (v := (.int t1)) ⟨by decide, by decide⟩ rfl (hb hby d_prog_57_m_8_29) rfl ?_
      by_cases hc30_3 : t2 = t1
      · skip
        refine g_icmpN X10 hx (hb hby d_prog_57_m_8_30) rfl (XT.ii_ne_f hc30_3) ?_
        refine g_aloadN X10 hx (hb hby d_prog_57_m_8_33) rfl rfl rfl ?_
        refine g_getF X10 hx hZ hown (host := "") (Or.inl (hw _ (List.mem_of_getElem? (i := 13) rfl))) Via.refl e10 F_tags_a (hb hby d_prog_57_m_8_34) rfl fun T11 X11 e11 => ?_
        refine g_iloadN X11 hx (hb hby d_prog_57_m_8_37) rfl rfl ?_
        refine g_iaload X11 hx hZ e11 V_x (v := (.int t2)) ⟨by decide, by decide⟩ rfl (hb hby d_prog_57_m_8_38) rfl ?_
        exact g_retI X11 hx hret hlk (hb hby d_prog_57_m_8_39) (by decide) (by decide) (by rw [e11]; exact ⟨(by unfold own_e5; rw [if_neg hc30, if_neg hc30_2, if_pos hc30_3]), N0, rfl⟩)
      · skip
        refine g_icmpY X10 hx (q := 40) (hb hby d_prog_57_m_8_30) (XT.ii_ne_t hc30_3) (by decide) (by decide) ?_
        refine g_iinc X10 hx (r := (2 : Int32)) (Ls' := #[.val (.ref a), .val (.int (2 : Int32)), .val (.int (2 : Int32))]) (hb hby d_prog_57_m_8_40) rfl rfl rfl rfl ?_
        refine g_goto X10 hx (q := 13) (hb hby d_prog_57_m_8_43) (by decide) (by decide) ?_
        refine g_iloadN X10 hx (hb hby d_prog_57_m_8_13) rfl rfl ?_
        refine g_iloadN X10 hx (hb hby d_prog_57_m_8_14) rfl rfl ?_
        refine g_icmpY X10 hx (q := 46) (hb hby d_prog_57_m_8_15) (XT.ii_ge_t (by decide : ¬ (2 : Int32) < (2 : Int32))) (by decide) (by decide) ?_
        refine g_iinc X10 hx (r := (3 : Int32)) (Ls' := #[.val (.ref a), .val (.int (3 : Int32)), .val (.int (2 : Int32))]) (hb hby d_prog_57_m_8_46) rfl rfl rfl rfl ?_
        refine g_goto X10 hx (q := 2) (hb hby d_prog_57_m_8_49) (by decide) (by decide) ?_
        refine g_iloadN X10 hx (hb hby d_prog_57_m_8_2) rfl rfl ?_
        refine g_aloadN X10 hx (hb hby d_prog_57_m_8_3) rfl rfl rfl ?_
        refine g_getF X10 hx hZ hown (host := "") (Or.inl (hw _ (List.mem_of_getElem? (i := 13) rfl))) Via.refl e10 F_tags_a (hb hby d_prog_57_m_8_4) rfl fun T12 X12 e12 => ?_
        refine g_len X12 hx hZ e12 V_x (hb hby d_prog_57_m_8_7) rfl ?_
        refine g_icmpN X12 hx (hb hby d_prog_57_m_8_8) rfl (XT.ii_ge_f (by decide : (3 : Int32) < (5 : Int32))) ?_
        refine g_iconst X12 hx (r := (0 : Int32)) (hb hby d_prog_57_m_8_11) rfl rfl ?_
        refine g_istoreN X12 hx (Ls' := #[.val (.ref a), .val (.int (3 : Int32)), .val (.int (0 : Int32))]) (hb hby d_prog_57_m_8_12) rfl rfl ?_
        refine g_iloadN X12 hx (hb hby d_prog_57_m_8_13) rfl rfl ?_
        refine g_iloadN X12 hx (hb hby d_prog_57_m_8_14) rfl rfl ?_
        refine g_icmpN X12 hx (hb hby d_prog_57_m_8_15) rfl (XT.ii_ge_f (by decide : (0 : Int32) < (3 : Int32))) ?_
        refine g_aloadN X12 hx (hb hby d_prog_57_m_8_18) rfl rfl rfl ?_
        refine g_getF X12 hx hZ hown (host := "") (Or.inl (hw _ (List.mem_of_getElem? (i := 13) rfl))) Via.refl e12 F_tags_a (hb hby d_prog_57_m_8_19) rfl fun T13 X13 e13 => ?_
        refine g_iloadN X13 hx (hb hby d_prog_57_m_8_22) rfl rfl ?_
        refine g_iaload X13 hx hZ e13 V_x (v := (.int t3)) ⟨by decide, by decide⟩ rfl (hb hby d_prog_57_m_8_23) rfl ?_
        refine g_aloadN X13 hx (hb hby d_prog_57_m_8_24) rfl rfl rfl ?_
        refine g_getF X13 hx hZ hown (host := "") (Or.inl (hw _ (List.mem_of_getElem? (i := 13) rfl))) Via.refl e13 F_tags_a (hb hby d_prog_57_m_8_25) rfl fun T14 X14 e14 => ?_
        refine g_iloadN X14 hx (hb hby d_prog_57_m_8_28) rfl rfl ?_
        refine g_iaload X14 hx hZ e14 V_x (v := (.int t0)) ⟨by decide, by decide⟩ rfl (hb hby d_prog_57_m_8_29) rfl ?_
        by_cases hc30_4 : t3 = t0
        · skip
          refine g_icmpN X14 hx (hb hby d_prog_57_m_8_30) rfl (XT.ii_ne_f hc30_4) ?_
          refine g_aloadN X14 hx (hb hby d_prog_57_m_8_33) rfl rfl rfl ?_
          refine g_getF X14 hx hZ hown (host := "") (Or.inl (hw _ (List.mem_of_getElem? (i := 13) rfl))) Via.refl e14 F_tags_a (hb hby d_prog_57_m_8_34) rfl fun T15 X15 e15 => ?_
          refine g_iloadN X15 hx (hb hby d_prog_57_m_8_37) rfl rfl ?_
          refine g_iaload X15 hx hZ e15 V_x (v := (.int t3)) ⟨by decide, by decide⟩ rfl (hb hby d_prog_57_m_8_38) rfl ?_
          exact g_retI X15 hx hret hlk (hb hby d_prog_57_m_8_39) (by decide) (by decide) (by rw [e15]; exact ⟨(by unfold own_e5; rw [if_neg hc30, if_neg hc30_2, if_neg hc30_3, if_pos hc30_4]), N0, rfl⟩)
        · skip
          refine g_icmpY X14 hx (q := 40) (hb hby d_prog_57_m_8_30) (XT.ii_ne_t hc30_4) (by decide) (by decide) ?_
          refine g_iinc X14 hx (r := (1 : Int32)) (Ls' := #[.val (.ref a), .val (.int (3 : Int32)), .val (.int (1 : Int32))]) (hb hby d_prog_57_m_8_40) rfl rfl rfl rfl ?_
          refine g_goto X14 hx (q := 13) (hb hby d_prog_57_m_8_43) (by decide) (by decide) ?_
          refine g_iloadN X14 hx (hb hby d_prog_57_m_8_13) rfl rfl ?_
          refine g_iloadN X14 hx (hb hby d_prog_57_m_8_14) rfl rfl ?_
          refine g_icmpN X14 hx (hb hby d_prog_57_m_8_15) rfl (XT.ii_ge_f (by decide : (1 : Int32) < (3 : Int32))) ?_
          refine g_aloadN X14 hx (hb hby d_prog_57_m_8_18) rfl rfl rfl ?_
          refine g_getF X14 hx hZ hown (host := "") (Or.inl (hw _ (List.mem_of_getElem? (i := 13) rfl))) Via.refl e14 F_tags_a (hb hby d_prog_57_m_8_19) rfl fun T16 X16 e16 => ?_
          refine g_iloadN X16 hx (hb hby d_prog_57_m_8_22) rfl rfl ?_
          refine g_iaload X16 hx hZ e16 V_x (v := (.int t3)) ⟨by decide, by decide⟩ rfl (hb hby d_prog_57_m_8_23) rfl ?_
          refine g_aloadN X16 hx (hb hby d_prog_57_m_8_24) rfl rfl rfl ?_
          refine g_getF X16 hx hZ hown (host := "") (Or.inl (hw _ (List.mem_of_getElem? (i := 13) rfl))) Via.refl e16 F_tags_a (hb hby d_prog_57_m_8_25) rfl fun T17 X17 e17 => ?_
          refine g_iloadN X17 hx (hb hby d_prog_57_m_8_28) rfl rfl ?_
          refine g_iaload X17 hx hZ e17 V_x (v := (.int t1)) ⟨by decide, by decide⟩ rfl (hb hby d_prog_57_m_8_29) rfl ?_
          by_cases hc30_5 : t3 = t1
          · skip
            refine g_icmpN X17 hx (hb hby d_prog_57_m_8_30) rfl (XT.ii_ne_f hc30_5) ?_
            refine g_aloadN X17 hx (hb hby d_prog_57_m_8_33) rfl rfl rfl ?_
            refine g_getF X17 hx hZ hown (host := "") (Or.inl (hw _ (List.mem_of_getElem? (i := 13) rfl))) Via.refl e17 F_tags_a (hb hby d_prog_57_m_8_34) rfl fun T18 X18 e18 => ?_
            refine g_iloadN X18 hx (hb hby d_prog_57_m_8_37) rfl rfl ?_
            refine g_iaload X18 hx hZ e18 V_x (v := (.int t3)) ⟨by decide, by decide⟩ rfl (hb hby d_prog_57_m_8_38) rfl ?_
            exact g_retI X18 hx hret hlk (hb hby d_prog_57_m_8_39) (by decide) (by decide) (by rw [e18]; exact ⟨(by unfold own_e5; rw [if_neg hc30, if_neg hc30_2, if_neg hc30_3, if_neg hc30_4, if_pos hc30_5]), N0, rfl⟩)
          · skip
            refine g_icmpY X17 hx (q := 40) (hb hby d_prog_57_m_8_30) (XT.ii_ne_t hc30_5) (by decide) (by decide) ?_
            refine g_iinc X17 hx (r := (2 : Int32)) (Ls' := #[.val (.ref a), .val (.int (3 : Int32)), .val (.int (2 : Int32))]) (hb hby d_prog_57_m_8_40) rfl rfl rfl rfl ?_
            refine g_goto X17 hx (q := 13) (hb hby d_prog_57_m_8_43) (by decide) (by decide) ?_
            refine g_iloadN X17 hx (hb hby d_prog_57_m_8_13) rfl rfl ?_
            refine g_iloadN X17 hx (hb hby d_prog_57_m_8_14) rfl rfl ?_
            refine g_icmpN X17 hx (hb hby d_prog_57_m_8_15) rfl (XT.ii_ge_f (by decide : (2 : Int32) < (3 : Int32))) ?_
            refine g_aloadN X17 hx (hb hby d_prog_57_m_8_18) rfl rfl rfl ?_
            refine g_getF X17 hx hZ hown (host := "") (Or.inl (hw _ (List.mem_of_getElem? (i := 13) rfl))) Via.refl e17 F_tags_a (hb hby d_prog_57_m_8_19) rfl fun T19 X19 e19 => ?_
            refine g_iloadN X19 hx (hb hby d_prog_57_m_8_22) rfl rfl ?_
            refine g_iaload X19 hx hZ e19 V_x (v := (.int t3)) ⟨by decide, by decide⟩ rfl (hb hby d_prog_57_m_8_23) rfl ?_
            refine g_aloadN X19 hx (hb hby d_prog_57_m_8_24) rfl rfl rfl ?_
            refine g_getF X19 hx hZ hown (host := "") (Or.inl (hw _ (List.mem_of_getElem? (i := 13) rfl))) Via.refl e19 F_tags_a (hb hby d_prog_57_m_8_25) rfl fun T20 X20 e20 => ?_
            refine g_iloadN X20 hx (hb hby d_prog_57_m_8_28) rfl rfl ?_
            refine g_iaload X20 hx hZ e20 V_x (v := (.int t2)) ⟨by decide, by decide⟩ rfl (hb hby d_prog_57_m_8_29) rfl ?_
            by_cases hc30_6 : t3 = t2
            · skip
              refine g_icmpN X20 hx (hb hby d_prog_57_m_8_30) rfl (XT.ii_ne_f hc30_6) ?_
              refine g_aloadN X20 hx (hb hby d_prog_57_m_8_33) rfl rfl rfl ?_
              refine g_getF X20 hx hZ hown (host := "") (Or.inl (hw _ (List.mem_of_getElem? (i := 13) rfl))) Via.refl e20 F_tags_a (hb hby d_prog_57_m_8_34) rfl fun T21 X21 e21 => ?_
              refine g_iloadN X21 hx (hb hby d_prog_57_m_8_37) rfl rfl ?_
              refine g_iaload X21 hx hZ e21 V_x (v := (.int t3)) ⟨by decide, by decide⟩ rfl (hb hby d_prog_57_m_8_38) rfl ?_
              exact g_retI X21 hx hret hlk (hb hby d_prog_57_m_8_39) (by decide) (by decide) (by rw [e21]; exact ⟨(by unfold own_e5; rw [if_neg hc30, if_neg hc30_2, if_neg hc30_3, if_neg hc30_4, if_neg hc30_5, if_pos hc30_6]), N0, rfl⟩)
            · skip
              refine g_icmpY X20 hx (q := 40) (hb hby d_prog_57_m_8_30) (XT.ii_ne_t hc30_6) (by decide) (by decide) ?_
              refine g_iinc X20 hx (r := (3 : Int32)) (Ls' := #[.val (.ref a), .val (.int (3 : Int32)), .val (.int (3 : Int32))]) (hb hby d_prog_57_m_8_40) rfl rfl rfl rfl ?_
              refine g_goto X20 hx (q := 13) (hb hby d_prog_57_m_8_43) (by decide) (by decide) ?_
              refine g_iloadN X20 hx (hb hby d_prog_57_m_8_13) rfl rfl ?_
              refine g_iloadN X20 hx (hb hby d_prog_57_m_8_14) rfl rfl ?_
              refine g_icmpY X20 hx (q := 46) (hb hby d_prog_57_m_8_15) (XT.ii_ge_t (by decide : ¬ (3 : Int32) < (3 : Int32))) (by decide) (by decide) ?_
              refine g_iinc X20 hx (r := (4 : Int32)) (Ls' := #[.val (.ref a), .val (.int (4 : Int32)), .val (.int (3 : Int32))]) (hb hby d_prog_57_m_8_46) rfl rfl rfl rfl ?_
              refine g_goto X20 hx (q := 2) (hb hby d_prog_57_m_8_49) (by decide) (by decide) ?_
              refine g_iloadN X20 hx (hb hby d_prog_57_m_8_2) rfl rfl ?_
              refine g_aloadN X20 hx (hb hby d_prog_57_m_8_3) rfl rfl rfl ?_
              refine g_getF X20 hx hZ hown (host := "") (Or.inl (hw _ (List.mem_of_getElem? (i := 13) rfl))) Via.refl e20 F_tags_a (hb hby d_prog_57_m_8_4) rfl fun T22 X22 e22 => ?_
              refine g_len X22 hx hZ e22 V_x (hb hby d_prog_57_m_8_7) rfl ?_
              refine g_icmpN X22 hx (hb hby d_prog_57_m_8_8) rfl (XT.ii_ge_f (by decide : (4 : Int32) < (5 : Int32))) ?_
              refine g_iconst X22 hx (r := (0 : Int32)) (hb hby d_prog_57_m_8_11) rfl rfl ?_
              refine g_istoreN X22 hx (Ls' := #[.val (.ref a), .val (.int (4 : Int32)), .val (.int (0 : Int32))]) (hb hby d_prog_57_m_8_12) rfl rfl ?_
              refine g_iloadN X22 hx (hb hby d_prog_57_m_8_13) rfl rfl ?_
              refine g_iloadN X22 hx (hb hby d_prog_57_m_8_14) rfl rfl ?_
              refine g_icmpN X22 hx (hb hby d_prog_57_m_8_15) rfl (XT.ii_ge_f (by decide : (0 : Int32) < (4 : Int32))) ?_
              refine g_aloadN X22 hx (hb hby d_prog_57_m_8_18) rfl rfl rfl ?_
              refine g_getF X22 hx hZ hown (host := "") (Or.inl (hw _ (List.mem_of_getElem? (i := 13) rfl))) Via.refl e22 F_tags_a (hb hby d_prog_57_m_8_19) rfl fun T23 X23 e23 => ?_
              refine g_iloadN X23 hx (hb hby d_prog_57_m_8_22) rfl rfl ?_
              refine g_iaload X23 hx hZ e23 V_x (v := (.int t4)) ⟨by decide, by decide⟩ rfl (hb hby d_prog_57_m_8_23) rfl ?_
              refine g_aloadN X23 hx (hb hby d_prog_57_m_8_24) rfl rfl rfl ?_
              refine g_getF X23 hx hZ hown (host := "") (Or.inl (hw _ (List.mem_of_getElem? (i := 13) rfl))) Via.refl e23 F_tags_a (hb hby d_prog_57_m_8_25) rfl fun T24 X24 e24 => ?_
              refine g_iloadN X24 hx (hb hby d_prog_57_m_8_28) rfl rfl ?_
              refine g_iaload X24 hx hZ e24 V_x (v := (.int t0)) ⟨by decide, by decide⟩ rfl (hb hby d_prog_57_m_8_29) rfl ?_
              by_cases hc30_7 : t4 = t0
              · skip
                refine g_icmpN X24 hx (hb hby d_prog_57_m_8_30) rfl (XT.ii_ne_f hc30_7) ?_
                refine g_aloadN X24 hx (hb hby d_prog_57_m_8_33) rfl rfl rfl ?_
                refine g_getF X24 hx hZ hown (host := "") (Or.inl (hw _ (List.mem_of_getElem? (i := 13) rfl))) Via.refl e24 F_tags_a (hb hby d_prog_57_m_8_34) rfl fun T25 X25 e25 => ?_
                refine g_iloadN X25 hx (hb hby d_prog_57_m_8_37) rfl rfl ?_
                refine g_iaload X25 hx hZ e25 V_x (v := (.int t4)) ⟨by decide, by decide⟩ rfl (hb hby d_prog_57_m_8_38) rfl ?_
                exact g_retI X25 hx hret hlk (hb hby d_prog_57_m_8_39) (by decide) (by decide) (by rw [e25]; exact ⟨(by unfold own_e5; rw [if_neg hc30, if_neg hc30_2, if_neg hc30_3, if_neg hc30_4, if_neg hc30_5, if_neg hc30_6, if_pos hc30_7]), N0, rfl⟩)
              · skip
                refine g_icmpY X24 hx (q := 40) (hb hby d_prog_57_m_8_30) (XT.ii_ne_t hc30_7) (by decide) (by decide) ?_
                refine g_iinc X24 hx (r := (1 : Int32)) (Ls' := #[.val (.ref a), .val (.int (4 : Int32)), .val (.int (1 : Int32))]) (hb hby d_prog_57_m_8_40) rfl rfl rfl rfl ?_
                refine g_goto X24 hx (q := 13) (hb hby d_prog_57_m_8_43) (by decide) (by decide) ?_
                refine g_iloadN X24 hx (hb hby d_prog_57_m_8_13) rfl rfl ?_
                refine g_iloadN X24 hx (hb hby d_prog_57_m_8_14) rfl rfl ?_
                refine g_icmpN X24 hx (hb hby d_prog_57_m_8_15) rfl (XT.ii_ge_f (by decide : (1 : Int32) < (4 : Int32))) ?_
                refine g_aloadN X24 hx (hb hby d_prog_57_m_8_18) rfl rfl rfl ?_
                refine g_getF X24 hx hZ hown (host := "") (Or.inl (hw _ (List.mem_of_getElem? (i := 13) rfl))) Via.refl e24 F_tags_a (hb hby d_prog_57_m_8_19) rfl fun T26 X26 e26 => ?_
                refine g_iloadN X26 hx (hb hby d_prog_57_m_8_22) rfl rfl ?_
                refine g_iaload X26 hx hZ e26 V_x (v := (.int t4)) ⟨by decide, by decide⟩ rfl (hb hby d_prog_57_m_8_23) rfl ?_
                refine g_aloadN X26 hx (hb hby d_prog_57_m_8_24) rfl rfl rfl ?_
                refine g_getF X26 hx hZ hown (host := "") (Or.inl (hw _ (List.mem_of_getElem? (i := 13) rfl))) Via.refl e26 F_tags_a (hb hby d_prog_57_m_8_25) rfl fun T27 X27 e27 => ?_
                refine g_iloadN X27 hx (hb hby d_prog_57_m_8_28) rfl rfl ?_
                refine g_iaload X27 hx hZ e27 V_x (v := (.int t1)) ⟨by decide, by decide⟩ rfl (hb hby d_prog_57_m_8_29) rfl ?_
                by_cases hc30_8 : t4 = t1
                · skip
                  refine g_icmpN X27 hx (hb hby d_prog_57_m_8_30) rfl (XT.ii_ne_f hc30_8) ?_
                  refine g_aloadN X27 hx (hb hby d_prog_57_m_8_33) rfl rfl rfl ?_
                  refine g_getF X27 hx hZ hown (host := "") (Or.inl (hw _ (List.mem_of_getElem? (i := 13) rfl))) Via.refl e27 F_tags_a (hb hby d_prog_57_m_8_34) rfl fun T28 X28 e28 => ?_
                  refine g_iloadN X28 hx (hb hby d_prog_57_m_8_37) rfl rfl ?_
                  refine g_iaload X28 hx hZ e28 V_x (v := (.int t4)) ⟨by decide, by decide⟩ rfl (hb hby d_prog_57_m_8_38) rfl ?_
                  exact g_retI X28 hx hret hlk (hb hby d_prog_57_m_8_39) (by decide) (by decide) (by rw [e28]; exact ⟨(by unfold own_e5; rw [if_neg hc30, if_neg hc30_2, if_neg hc30_3, if_neg hc30_4, if_neg hc30_5, if_neg hc30_6, if_neg hc30_7, if_pos hc30_8]), N0, rfl⟩)
                · skip
                  refine g_icmpY X27 hx (q := 40) (hb hby d_prog_57_m_8_30) (XT.ii_ne_t hc30_8) (by decide) (by decide) ?_
                  refine g_iinc X27 hx (r := (2 : Int32)) (Ls' := #[.val (.ref a), .val (.int (4 : Int32)), .val (.int (2 : Int32))]) (hb hby d_prog_57_m_8_40) rfl rfl rfl rfl ?_
                  refine g_goto X27 hx (q := 13) (hb hby d_prog_57_m_8_43) (by decide) (by decide) ?_
                  refine g_iloadN X27 hx (hb hby d_prog_57_m_8_13) rfl rfl ?_
                  refine g_iloadN X27 hx (hb hby d_prog_57_m_8_14) rfl rfl ?_
                  refine g_icmpN X27 hx (hb hby d_prog_57_m_8_15) rfl (XT.ii_ge_f (by decide : (2 : Int32) < (4 : Int32))) ?_
                  refine g_aloadN X27 hx (hb hby d_prog_57_m_8_18) rfl rfl rfl ?_
                  refine g_getF X27 hx hZ hown (host := "") (Or.inl (hw _ (List.mem_of_getElem? (i := 13) rfl))) Via.refl e27 F_tags_a (hb hby d_prog_57_m_8_19) rfl fun T29 X29 e29 => ?_
                  refine g_iloadN X29 hx (hb hby d_prog_57_m_8_22) rfl rfl ?_
                  refine g_iaload X29 hx hZ e29 V_x (v := (.int t4)) ⟨by decide, by decide⟩ rfl (hb hby d_prog_57_m_8_23) rfl ?_
                  refine g_aloadN X29 hx (hb hby d_prog_57_m_8_24) rfl rfl rfl ?_
                  refine g_getF X29 hx hZ hown (host := "") (Or.inl (hw _ (List.mem_of_getElem? (i := 13) rfl))) Via.refl e29 F_tags_a (hb hby d_prog_57_m_8_25) rfl fun T30 X30 e30 => ?_
                  refine g_iloadN X30 hx (hb hby d_prog_57_m_8_28) rfl rfl ?_
                  refine g_iaload X30 hx hZ e30 V_x (v := (.int t2)) ⟨by decide, by decide⟩ rfl (hb hby d_prog_57_m_8_29) rfl ?_
                  by_cases hc30_9 : t4 = t2
                  · skip
                    refine g_icmpN X30 hx (hb hby d_prog_57_m_8_30) rfl (XT.ii_ne_f hc30_9) ?_
                    refine g_aloadN X30 hx (hb hby d_prog_57_m_8_33) rfl rfl rfl ?_
                    refine g_getF X30 hx hZ hown (host := "") (Or.inl (hw _ (List.mem_of_getElem? (i := 13) rfl))) Via.refl e30 F_tags_a (hb hby d_prog_57_m_8_34) rfl fun T31 X31 e31 => ?_
                    refine g_iloadN X31 hx (hb hby d_prog_57_m_8_37) rfl rfl ?_
                    refine g_iaload X31 hx hZ e31 V_x (v := (.int t4)) ⟨by decide, by decide⟩ rfl (hb hby d_prog_57_m_8_38) rfl ?_
                    exact g_retI X31 hx hret hlk (hb hby d_prog_57_m_8_39) (by decide) (by decide) (by rw [e31]; exact ⟨(by unfold own_e5; rw [if_neg hc30, if_neg hc30_2, if_neg hc30_3, if_neg hc30_4, if_neg hc30_5, if_neg hc30_6, if_neg hc30_7, if_neg hc30_8, if_pos hc30_9]), N0, rfl⟩)
                  · skip
                    refine g_icmpY X30 hx (q := 40) (hb hby d_prog_57_m_8_30) (XT.ii_ne_t hc30_9) (by decide) (by decide) ?_
                    refine g_iinc X30 hx (r := (3 : Int32)) (Ls' := #[.val (.ref a), .val (.int (4 : Int32)), .val (.int (3 : Int32))]) (hb hby d_prog_57_m_8_40) rfl rfl rfl rfl ?_
                    refine g_goto X30 hx (q := 13) (hb hby d_prog_57_m_8_43) (by decide) (by decide) ?_
                    refine g_iloadN X30 hx (hb hby d_prog_57_m_8_13) rfl rfl ?_
                    refine g_iloadN X30 hx (hb hby d_prog_57_m_8_14) rfl rfl ?_
                    refine g_icmpN X30 hx (hb hby d_prog_57_m_8_15) rfl (XT.ii_ge_f (by decide : (3 : Int32) < (4 : Int32))) ?_
                    refine g_aloadN X30 hx (hb hby d_prog_57_m_8_18) rfl rfl rfl ?_
                    refine g_getF X30 hx hZ hown (host := "") (Or.inl (hw _ (List.mem_of_getElem? (i := 13) rfl))) Via.refl e30 F_tags_a (hb hby d_prog_57_m_8_19) rfl fun T32 X32 e32 => ?_
                    refine g_iloadN X32 hx (hb hby d_prog_57_m_8_22) rfl rfl ?_
                    refine g_iaload X32 hx hZ e32 V_x (v := (.int t4)) ⟨by decide, by decide⟩ rfl (hb hby d_prog_57_m_8_23) rfl ?_
                    refine g_aloadN X32 hx (hb hby d_prog_57_m_8_24) rfl rfl rfl ?_
                    refine g_getF X32 hx hZ hown (host := "") (Or.inl (hw _ (List.mem_of_getElem? (i := 13) rfl))) Via.refl e32 F_tags_a (hb hby d_prog_57_m_8_25) rfl fun T33 X33 e33 => ?_
                    refine g_iloadN X33 hx (hb hby d_prog_57_m_8_28) rfl rfl ?_
                    refine g_iaload X33 hx hZ e33 V_x (v := (.int t3)) ⟨by decide, by decide⟩ rfl (hb hby d_prog_57_m_8_29) rfl ?_
                    by_cases hc30_10 : t4 = t3
                    · skip
                      refine g_icmpN X33 hx (hb hby d_prog_57_m_8_30) rfl (XT.ii_ne_f hc30_10) ?_
                      refine g_aloadN X33 hx (hb hby d_prog_57_m_8_33) rfl rfl rfl ?_
                      refine g_getF X33 hx hZ hown (host := "") (Or.inl (hw _ (List.mem_of_getElem? (i := 13) rfl))) Via.refl e33 F_tags_a (hb hby d_prog_57_m_8_34) rfl fun T34 X34 e34 => ?_
                      refine g_iloadN X34 hx (hb hby d_prog_57_m_8_37) rfl rfl ?_
                      refine g_iaload X34 hx hZ e34 V_x (v := (.int t4)) ⟨by decide, by decide⟩ rfl (hb hby d_prog_57_m_8_38) rfl ?_
                      exact g_retI X34 hx hret hlk (hb hby d_prog_57_m_8_39) (by decide) (by decide) (by rw [e34]; exact ⟨(by unfold own_e5; rw [if_neg hc30, if_neg hc30_2, if_neg hc30_3, if_neg hc30_4, if_neg hc30_5, if_neg hc30_6, if_neg hc30_7, if_neg hc30_8, if_neg hc30_9, if_pos hc30_10]), N0, rfl⟩)
                    · skip
                      refine g_icmpY X33 hx (q := 40) (hb hby d_prog_57_m_8_30) (XT.ii_ne_t hc30_10) (by decide) (by decide) ?_
                      refine g_iinc X33 hx (r := (4 : Int32)) (Ls' := #[.val (.ref a), .val (.int (4 : Int32)), .val (.int (4 : Int32))]) (hb hby d_prog_57_m_8_40) rfl rfl rfl rfl ?_
                      refine g_goto X33 hx (q := 13) (hb hby d_prog_57_m_8_43) (by decide) (by decide) ?_
                      refine g_iloadN X33 hx (hb hby d_prog_57_m_8_13) rfl rfl ?_
                      refine g_iloadN X33 hx (hb hby d_prog_57_m_8_14) rfl rfl ?_
                      refine g_icmpY X33 hx (q := 46) (hb hby d_prog_57_m_8_15) (XT.ii_ge_t (by decide : ¬ (4 : Int32) < (4 : Int32))) (by decide) (by decide) ?_
                      refine g_iinc X33 hx (r := (5 : Int32)) (Ls' := #[.val (.ref a), .val (.int (5 : Int32)), .val (.int (4 : Int32))]) (hb hby d_prog_57_m_8_46) rfl rfl rfl rfl ?_
                      refine g_goto X33 hx (q := 2) (hb hby d_prog_57_m_8_49) (by decide) (by decide) ?_
                      refine g_iloadN X33 hx (hb hby d_prog_57_m_8_2) rfl rfl ?_
                      refine g_aloadN X33 hx (hb hby d_prog_57_m_8_3) rfl rfl rfl ?_
                      refine g_getF X33 hx hZ hown (host := "") (Or.inl (hw _ (List.mem_of_getElem? (i := 13) rfl))) Via.refl e33 F_tags_a (hb hby d_prog_57_m_8_4) rfl fun T35 X35 e35 => ?_
                      refine g_len X35 hx hZ e35 V_x (hb hby d_prog_57_m_8_7) rfl ?_
                      refine g_icmpY X35 hx (q := 52) (hb hby d_prog_57_m_8_8) (XT.ii_ge_t (by decide : ¬ (5 : Int32) < (5 : Int32))) (by decide) (by decide) ?_
                      refine g_iconst X35 hx (r := (0 : Int32)) (hb hby d_prog_57_m_8_52) rfl rfl ?_
                      exact g_retI X35 hx hret hlk (hb hby d_prog_57_m_8_53) (by decide) (by decide) (by rw [e35]; exact ⟨(by unfold own_e5; rw [if_neg hc30, if_neg hc30_2, if_neg hc30_3, if_neg hc30_4, if_neg hc30_5, if_neg hc30_6, if_neg hc30_7, if_neg hc30_8, if_neg hc30_9, if_neg hc30_10]), N0, rfl⟩)
def Q_ex0 (Z : State) (t0 : Int32) (t1 : Int32) (t2 : Int32) (t3 : Int32) (t4 : Int32) (h0 : Heap) (n0 : Nat) (v : Option Value) (h : Heap) (L : List Loc) : Prop := v = some (.int own_e0) ∧ Fr n0 L ∧ h = h0
theorem ef_ex0 (m : MethodId) (x0 : Int32) (x1 : Int32) (x2 : Int32) (x3 : Int32) (x4 : Int32) (x5 : Int32) : entryFrame m #[(.int x0), (.int x1), (.int x2), (.int x3), (.int x4), (.int x5)] 6 = mkF m 0 #[.val (.int x0), .val (.int x1), .val (.int x2), .val (.int x3), .val (.int x4), .val (.int x5)] [] := by first | (simp [entryFrame, mkF, argsToLocals, Value.category]; done) | rfl
set_option maxRecDepth 65536 in
set_option maxHeartbeats 40000000 in
theorem rm_ex0 (l : Launch) (Z : State) (a0 : Array Value) (hw : ∀ d ∈ tables_1, d.before a0 Z = true) (t0 : Int32) (t1 : Int32) (t2 : Int32) (t3 : Int32) (t4 : Int32) (h0 : Heap) (n0 : Nat) (Z0 : n0 ≤ h0.size) :
    Ct l Z (⟨"com/example/crosstide/crosstide/fix/FixMessageRepeatedTagPinLaw", "expected", "(IIIIII)I"⟩ : MethodName) method_2_code 6 (some .int) [] ({ frames := 0, cells := 0, slots := 0, locals := 0 } : Room) #[(.int (0 : Int32)), (.int t0), (.int t1), (.int t2), (.int t3), (.int t4)] h0 (Q_ex0 Z t0 t1 t2 t3 t4 h0 n0) := by
  refine own_body (plainFor_of_name pn_1) (fun m => ef_ex0 m (0 : Int32) t0 t1 t2 t3 t4) ?_
  intro p e s m below meth c T0 hx hby hml hZ hown hnm hret hlk X0 e0
  have N0 := Fr.nil n0
  refine g_iloadN X0 hx (hb hby d_m_2_0) rfl rfl ?_
  refine g_iconst X0 hx (r := (2 : Int32)) (hb hby d_m_2_1) rfl rfl ?_
  refine g_icmpY X0 hx (q := 12) (hb hby d_m_2_2) (XT.ii_lt_t (by decide : (0 : Int32) < (2 : Int32))) (by decide) (by decide) ?_
  refine g_iloadN X0 hx (hb hby d_m_2_12) rfl rfl ?_
  refine g_iconst X0 hx (r := (3 : Int32)) (hb hby d_m_2_13) rfl rfl ?_
  refine g_icmpY X0 hx (q := 29) (hb hby d_m_2_14) (XT.ii_lt_t (by decide : (0 : Int32) < (3 : Int32))) (by decide) (by decide) ?_
  refine g_iloadN X0 hx (hb hby d_m_2_29) rfl rfl ?_
  refine g_iconst X0 hx (r := (4 : Int32)) (hb hby d_m_2_30) rfl rfl ?_
  refine g_icmpY X0 hx (q := 55) (hb hby d_m_2_31) (XT.ii_lt_t (by decide : (0 : Int32) < (4 : Int32))) (by decide) (by decide) ?_
  refine g_iloadN X0 hx (hb hby d_m_2_55) rfl rfl ?_
  refine g_iconst X0 hx (r := (5 : Int32)) (hb hby d_m_2_56) rfl rfl ?_
  refine g_icmpY X0 hx (q := 88) (hb hby d_m_2_57) (XT.ii_lt_t (by decide : (0 : Int32) < (5 : Int32))) (by decide) (by decide) ?_
  refine g_iconst X0 hx (r := (0 : Int32)) (hb hby d_m_2_88) rfl rfl ?_
  exact g_retI X0 hx hret hlk (hb hby d_m_2_89) (by decide) (by decide) (by rw [e0]; exact ⟨(by unfold own_e0; rfl), N0, rfl⟩)
def Q_ex1 (Z : State) (t0 : Int32) (t1 : Int32) (t2 : Int32) (t3 : Int32) (t4 : Int32) (h0 : Heap) (n0 : Nat) (v : Option Value) (h : Heap) (L : List Loc) : Prop := v = some (.int (own_e1 t0)) ∧ Fr n0 L ∧ h = h0
theorem ef_ex1 (m : MethodId) (x0 : Int32) (x1 : Int32) (x2 : Int32) (x3 : Int32) (x4 : Int32) (x5 : Int32) : entryFrame m #[(.int x0), (.int x1), (.int x2), (.int x3), (.int x4), (.int x5)] 6 = mkF m 0 #[.val (.int x0), .val (.int x1), .val (.int x2), .val (.int x3), .val (.int x4), .val (.int x5)] [] := by first | (simp [entryFrame, mkF, argsToLocals, Value.category]; done) | rfl
set_option maxRecDepth 65536 in
set_option maxHeartbeats 40000000 in
theorem rm_ex1 (l : Launch) (Z : State) (a0 : Array Value) (hw : ∀ d ∈ tables_1, d.before a0 Z = true) (t0 : Int32) (t1 : Int32) (t2 : Int32) (t3 : Int32) (t4 : Int32) (h0 : Heap) (n0 : Nat) (Z0 : n0 ≤ h0.size) :
    Ct l Z (⟨"com/example/crosstide/crosstide/fix/FixMessageRepeatedTagPinLaw", "expected", "(IIIIII)I"⟩ : MethodName) method_2_code 6 (some .int) [] ({ frames := 0, cells := 0, slots := 0, locals := 0 } : Room) #[(.int (1 : Int32)), (.int t0), (.int t1), (.int t2), (.int t3), (.int t4)] h0 (Q_ex1 Z t0 t1 t2 t3 t4 h0 n0) := by
  refine own_body (plainFor_of_name pn_1) (fun m => ef_ex1 m (1 : Int32) t0 t1 t2 t3 t4) ?_
  intro p e s m below meth c T0 hx hby hml hZ hown hnm hret hlk X0 e0
  have N0 := Fr.nil n0
  refine g_iloadN X0 hx (hb hby d_m_2_0) rfl rfl ?_
  refine g_iconst X0 hx (r := (2 : Int32)) (hb hby d_m_2_1) rfl rfl ?_
  refine g_icmpY X0 hx (q := 12) (hb hby d_m_2_2) (XT.ii_lt_t (by decide : (1 : Int32) < (2 : Int32))) (by decide) (by decide) ?_
  refine g_iloadN X0 hx (hb hby d_m_2_12) rfl rfl ?_
  refine g_iconst X0 hx (r := (3 : Int32)) (hb hby d_m_2_13) rfl rfl ?_
  refine g_icmpY X0 hx (q := 29) (hb hby d_m_2_14) (XT.ii_lt_t (by decide : (1 : Int32) < (3 : Int32))) (by decide) (by decide) ?_
  refine g_iloadN X0 hx (hb hby d_m_2_29) rfl rfl ?_
  refine g_iconst X0 hx (r := (4 : Int32)) (hb hby d_m_2_30) rfl rfl ?_
  refine g_icmpY X0 hx (q := 55) (hb hby d_m_2_31) (XT.ii_lt_t (by decide : (1 : Int32) < (4 : Int32))) (by decide) (by decide) ?_
  refine g_iloadN X0 hx (hb hby d_m_2_55) rfl rfl ?_
  refine g_iconst X0 hx (r := (5 : Int32)) (hb hby d_m_2_56) rfl rfl ?_
  refine g_icmpY X0 hx (q := 88) (hb hby d_m_2_57) (XT.ii_lt_t (by decide : (1 : Int32) < (5 : Int32))) (by decide) (by decide) ?_
  refine g_iconst X0 hx (r := (0 : Int32)) (hb hby d_m_2_88) rfl rfl ?_
  exact g_retI X0 hx hret hlk (hb hby d_m_2_89) (by decide) (by decide) (by rw [e0]; exact ⟨(by unfold own_e1; rfl), N0, rfl⟩)
def Q_ex2 (Z : State) (t0 : Int32) (t1 : Int32) (t2 : Int32) (t3 : Int32) (t4 : Int32) (h0 : Heap) (n0 : Nat) (v : Option Value) (h : Heap) (L : List Loc) : Prop := v = some (.int (own_e2 t0 t1)) ∧ Fr n0 L ∧ h = h0
theorem ef_ex2 (m : MethodId) (x0 : Int32) (x1 : Int32) (x2 : Int32) (x3 : Int32) (x4 : Int32) (x5 : Int32) : entryFrame m #[(.int x0), (.int x1), (.int x2), (.int x3), (.int x4), (.int x5)] 6 = mkF m 0 #[.val (.int x0), .val (.int x1), .val (.int x2), .val (.int x3), .val (.int x4), .val (.int x5)] [] := by first | (simp [entryFrame, mkF, argsToLocals, Value.category]; done) | rfl
set_option maxRecDepth 65536 in
set_option maxHeartbeats 40000000 in
theorem rm_ex2 (l : Launch) (Z : State) (a0 : Array Value) (hw : ∀ d ∈ tables_1, d.before a0 Z = true) (t0 : Int32) (t1 : Int32) (t2 : Int32) (t3 : Int32) (t4 : Int32) (h0 : Heap) (n0 : Nat) (Z0 : n0 ≤ h0.size) :
    Ct l Z (⟨"com/example/crosstide/crosstide/fix/FixMessageRepeatedTagPinLaw", "expected", "(IIIIII)I"⟩ : MethodName) method_2_code 6 (some .int) [] ({ frames := 0, cells := 0, slots := 0, locals := 0 } : Room) #[(.int (2 : Int32)), (.int t0), (.int t1), (.int t2), (.int t3), (.int t4)] h0 (Q_ex2 Z t0 t1 t2 t3 t4 h0 n0) := by
  refine own_body (plainFor_of_name pn_1) (fun m => ef_ex2 m (2 : Int32) t0 t1 t2 t3 t4) ?_
  intro p e s m below meth c T0 hx hby hml hZ hown hnm hret hlk X0 e0
  have N0 := Fr.nil n0
  refine g_iloadN X0 hx (hb hby d_m_2_0) rfl rfl ?_
  refine g_iconst X0 hx (r := (2 : Int32)) (hb hby d_m_2_1) rfl rfl ?_
  refine g_icmpN X0 hx (hb hby d_m_2_2) rfl (XT.ii_lt_f (by decide : ¬ (2 : Int32) < (2 : Int32))) ?_
  refine g_iloadN X0 hx (hb hby d_m_2_5) rfl rfl ?_
  refine g_iloadN X0 hx (hb hby d_m_2_6) rfl rfl ?_
  by_cases hc7 : t1 = t0
  · skip
    refine g_icmpN X0 hx (hb hby d_m_2_7) rfl (XT.ii_ne_f hc7) ?_
    refine g_iloadN X0 hx (hb hby d_m_2_10) rfl rfl ?_
    exact g_retI X0 hx hret hlk (hb hby d_m_2_11) (by decide) (by decide) (by rw [e0]; exact ⟨(by unfold own_e2; rw [if_pos hc7]), N0, rfl⟩)
  · skip
    refine g_icmpY X0 hx (q := 12) (hb hby d_m_2_7) (XT.ii_ne_t hc7) (by decide) (by decide) ?_
    refine g_iloadN X0 hx (hb hby d_m_2_12) rfl rfl ?_
    refine g_iconst X0 hx (r := (3 : Int32)) (hb hby d_m_2_13) rfl rfl ?_
    refine g_icmpY X0 hx (q := 29) (hb hby d_m_2_14) (XT.ii_lt_t (by decide : (2 : Int32) < (3 : Int32))) (by decide) (by decide) ?_
    refine g_iloadN X0 hx (hb hby d_m_2_29) rfl rfl ?_
    refine g_iconst X0 hx (r := (4 : Int32)) (hb hby d_m_2_30) rfl rfl ?_
    refine g_icmpY X0 hx (q := 55) (hb hby d_m_2_31) (XT.ii_lt_t (by decide : (2 : Int32) < (4 : Int32))) (by decide) (by decide) ?_
    refine g_iloadN X0 hx (hb hby d_m_2_55) rfl rfl ?_
    refine g_iconst X0 hx (r := (5 : Int32)) (hb hby d_m_2_56) rfl rfl ?_
    refine g_icmpY X0 hx (q := 88) (hb hby d_m_2_57) (XT.ii_lt_t (by decide : (2 : Int32) < (5 : Int32))) (by decide) (by decide) ?_
    refine g_iconst X0 hx (r := (0 : Int32)) (hb hby d_m_2_88) rfl rfl ?_
    exact g_retI X0 hx hret hlk (hb hby d_m_2_89) (by decide) (by decide) (by rw [e0]; exact ⟨(by unfold own_e2; rw [if_neg hc7]), N0, rfl⟩)
def Q_ex3 (Z : State) (t0 : Int32) (t1 : Int32) (t2 : Int32) (t3 : Int32) (t4 : Int32) (h0 : Heap) (n0 : Nat) (v : Option Value) (h : Heap) (L : List Loc) : Prop := v = some (.int (own_e3 t0 t1 t2)) ∧ Fr n0 L ∧ h = h0
theorem ef_ex3 (m : MethodId) (x0 : Int32) (x1 : Int32) (x2 : Int32) (x3 : Int32) (x4 : Int32) (x5 : Int32) : entryFrame m #[(.int x0), (.int x1), (.int x2), (.int x3), (.int x4), (.int x5)] 6 = mkF m 0 #[.val (.int x0), .val (.int x1), .val (.int x2), .val (.int x3), .val (.int x4), .val (.int x5)] [] := by first | (simp [entryFrame, mkF, argsToLocals, Value.category]; done) | rfl
set_option maxRecDepth 65536 in
set_option maxHeartbeats 40000000 in
theorem rm_ex3 (l : Launch) (Z : State) (a0 : Array Value) (hw : ∀ d ∈ tables_1, d.before a0 Z = true) (t0 : Int32) (t1 : Int32) (t2 : Int32) (t3 : Int32) (t4 : Int32) (h0 : Heap) (n0 : Nat) (Z0 : n0 ≤ h0.size) :
    Ct l Z (⟨"com/example/crosstide/crosstide/fix/FixMessageRepeatedTagPinLaw", "expected", "(IIIIII)I"⟩ : MethodName) method_2_code 6 (some .int) [] ({ frames := 0, cells := 0, slots := 0, locals := 0 } : Room) #[(.int (3 : Int32)), (.int t0), (.int t1), (.int t2), (.int t3), (.int t4)] h0 (Q_ex3 Z t0 t1 t2 t3 t4 h0 n0) := by
  refine own_body (plainFor_of_name pn_1) (fun m => ef_ex3 m (3 : Int32) t0 t1 t2 t3 t4) ?_
  intro p e s m below meth c T0 hx hby hml hZ hown hnm hret hlk X0 e0
  have N0 := Fr.nil n0
  refine g_iloadN X0 hx (hb hby d_m_2_0) rfl rfl ?_
  refine g_iconst X0 hx (r := (2 : Int32)) (hb hby d_m_2_1) rfl rfl ?_
  refine g_icmpN X0 hx (hb hby d_m_2_2) rfl (XT.ii_lt_f (by decide : ¬ (3 : Int32) < (2 : Int32))) ?_
  refine g_iloadN X0 hx (hb hby d_m_2_5) rfl rfl ?_
  refine g_iloadN X0 hx (hb hby d_m_2_6) rfl rfl ?_
  by_cases hc7 : t1 = t0
  · skip
    refine g_icmpN X0 hx (hb hby d_m_2_7) rfl (XT.ii_ne_f hc7) ?_
    refine g_iloadN X0 hx (hb hby d_m_2_10) rfl rfl ?_
    exact g_retI X0 hx hret hlk (hb hby d_m_2_11) (by decide) (by decide) (by rw [e0]; exact ⟨(by unfold own_e3; rw [if_pos hc7]), N0, rfl⟩)
  · skip
    refine g_icmpY X0 hx (q := 12) (hb hby d_m_2_7) (XT.ii_ne_t hc7) (by decide) (by decide) ?_
    refine g_iloadN X0 hx (hb hby d_m_2_12) rfl rfl ?_
    refine g_iconst X0 hx (r := (3 : Int32)) (hb hby d_m_2_13) rfl rfl ?_
    refine g_icmpN X0 hx (hb hby d_m_2_14) rfl (XT.ii_lt_f (by decide : ¬ (3 : Int32) < (3 : Int32))) ?_
    refine g_iloadN X0 hx (hb hby d_m_2_17) rfl rfl ?_
    refine g_iloadN X0 hx (hb hby d_m_2_18) rfl rfl ?_
    by_cases hc19 : t2 = t0
    · skip
      refine g_icmpY X0 hx (q := 27) (hb hby d_m_2_19) (XT.ii_eq_t hc19) (by decide) (by decide) ?_
      refine g_iloadN X0 hx (hb hby d_m_2_27) rfl rfl ?_
      exact g_retI X0 hx hret hlk (hb hby d_m_2_28) (by decide) (by decide) (by rw [e0]; exact ⟨(by unfold own_e3; rw [if_neg hc7, if_pos hc19]), N0, rfl⟩)
    · skip
      refine g_icmpN X0 hx (hb hby d_m_2_19) rfl (XT.ii_eq_f hc19) ?_
      refine g_iloadN X0 hx (hb hby d_m_2_22) rfl rfl ?_
      refine g_iloadN X0 hx (hb hby d_m_2_23) rfl rfl ?_
      by_cases hc24 : t2 = t1
      · skip
        refine g_icmpN X0 hx (hb hby d_m_2_24) rfl (XT.ii_ne_f hc24) ?_
        refine g_iloadN X0 hx (hb hby d_m_2_27) rfl rfl ?_
        exact g_retI X0 hx hret hlk (hb hby d_m_2_28) (by decide) (by decide) (by rw [e0]; exact ⟨(by unfold own_e3; rw [if_neg hc7, if_neg hc19, if_pos hc24]), N0, rfl⟩)
      · skip
        refine g_icmpY X0 hx (q := 29) (hb hby d_m_2_24) (XT.ii_ne_t hc24) (by decide) (by decide) ?_
        refine g_iloadN X0 hx (hb hby d_m_2_29) rfl rfl ?_
        refine g_iconst X0 hx (r := (4 : Int32)) (hb hby d_m_2_30) rfl rfl ?_
        refine g_icmpY X0 hx (q := 55) (hb hby d_m_2_31) (XT.ii_lt_t (by decide : (3 : Int32) < (4 : Int32))) (by decide) (by decide) ?_
        refine g_iloadN X0 hx (hb hby d_m_2_55) rfl rfl ?_
        refine g_iconst X0 hx (r := (5 : Int32)) (hb hby d_m_2_56) rfl rfl ?_
        refine g_icmpY X0 hx (q := 88) (hb hby d_m_2_57) (XT.ii_lt_t (by decide : (3 : Int32) < (5 : Int32))) (by decide) (by decide) ?_
        refine g_iconst X0 hx (r := (0 : Int32)) (hb hby d_m_2_88) rfl rfl ?_
        exact g_retI X0 hx hret hlk (hb hby d_m_2_89) (by decide) (by decide) (by rw [e0]; exact ⟨(by unfold own_e3; rw [if_neg hc7, if_neg hc19, if_neg hc24]), N0, rfl⟩)
def Q_ex4 (Z : State) (t0 : Int32) (t1 : Int32) (t2 : Int32) (t3 : Int32) (t4 : Int32) (h0 : Heap) (n0 : Nat) (v : Option Value) (h : Heap) (L : List Loc) : Prop := v = some (.int (own_e4 t0 t1 t2 t3)) ∧ Fr n0 L ∧ h = h0
theorem ef_ex4 (m : MethodId) (x0 : Int32) (x1 : Int32) (x2 : Int32) (x3 : Int32) (x4 : Int32) (x5 : Int32) : entryFrame m #[(.int x0), (.int x1), (.int x2), (.int x3), (.int x4), (.int x5)] 6 = mkF m 0 #[.val (.int x0), .val (.int x1), .val (.int x2), .val (.int x3), .val (.int x4), .val (.int x5)] [] := by first | (simp [entryFrame, mkF, argsToLocals, Value.category]; done) | rfl
set_option maxRecDepth 65536 in
set_option maxHeartbeats 40000000 in
theorem rm_ex4 (l : Launch) (Z : State) (a0 : Array Value) (hw : ∀ d ∈ tables_1, d.before a0 Z = true) (t0 : Int32) (t1 : Int32) (t2 : Int32) (t3 : Int32) (t4 : Int32) (h0 : Heap) (n0 : Nat) (Z0 : n0 ≤ h0.size) :
    Ct l Z (⟨"com/example/crosstide/crosstide/fix/FixMessageRepeatedTagPinLaw", "expected", "(IIIIII)I"⟩ : MethodName) method_2_code 6 (some .int) [] ({ frames := 0, cells := 0, slots := 0, locals := 0 } : Room) #[(.int (4 : Int32)), (.int t0), (.int t1), (.int t2), (.int t3), (.int t4)] h0 (Q_ex4 Z t0 t1 t2 t3 t4 h0 n0) := by
  refine own_body (plainFor_of_name pn_1) (fun m => ef_ex4 m (4 : Int32) t0 t1 t2 t3 t4) ?_
  intro p e s m below meth c T0 hx hby hml hZ hown hnm hret hlk X0 e0
  have N0 := Fr.nil n0
  refine g_iloadN X0 hx (hb hby d_m_2_0) rfl rfl ?_
  refine g_iconst X0 hx (r := (2 : Int32)) (hb hby d_m_2_1) rfl rfl ?_
  refine g_icmpN X0 hx (hb hby d_m_2_2) rfl (XT.ii_lt_f (by decide : ¬ (4 : Int32) < (2 : Int32))) ?_
  refine g_iloadN X0 hx (hb hby d_m_2_5) rfl rfl ?_
  refine g_iloadN X0 hx (hb hby d_m_2_6) rfl rfl ?_
  by_cases hc7 : t1 = t0
  · skip
    refine g_icmpN X0 hx (hb hby d_m_2_7) rfl (XT.ii_ne_f hc7) ?_
    refine g_iloadN X0 hx (hb hby d_m_2_10) rfl rfl ?_
    exact g_retI X0 hx hret hlk (hb hby d_m_2_11) (by decide) (by decide) (by rw [e0]; exact ⟨(by unfold own_e4; rw [if_pos hc7]), N0, rfl⟩)
  · skip
    refine g_icmpY X0 hx (q := 12) (hb hby d_m_2_7) (XT.ii_ne_t hc7) (by decide) (by decide) ?_
    refine g_iloadN X0 hx (hb hby d_m_2_12) rfl rfl ?_
    refine g_iconst X0 hx (r := (3 : Int32)) (hb hby d_m_2_13) rfl rfl ?_
    refine g_icmpN X0 hx (hb hby d_m_2_14) rfl (XT.ii_lt_f (by decide : ¬ (4 : Int32) < (3 : Int32))) ?_
    refine g_iloadN X0 hx (hb hby d_m_2_17) rfl rfl ?_
    refine g_iloadN X0 hx (hb hby d_m_2_18) rfl rfl ?_
    by_cases hc19 : t2 = t0
    · skip
      refine g_icmpY X0 hx (q := 27) (hb hby d_m_2_19) (XT.ii_eq_t hc19) (by decide) (by decide) ?_
      refine g_iloadN X0 hx (hb hby d_m_2_27) rfl rfl ?_
      exact g_retI X0 hx hret hlk (hb hby d_m_2_28) (by decide) (by decide) (by rw [e0]; exact ⟨(by unfold own_e4; rw [if_neg hc7, if_pos hc19]), N0, rfl⟩)
    · skip
      refine g_icmpN X0 hx (hb hby d_m_2_19) rfl (XT.ii_eq_f hc19) ?_
      refine g_iloadN X0 hx (hb hby d_m_2_22) rfl rfl ?_
      refine g_iloadN X0 hx (hb hby d_m_2_23) rfl rfl ?_
      by_cases hc24 : t2 = t1
      · skip
        refine g_icmpN X0 hx (hb hby d_m_2_24) rfl (XT.ii_ne_f hc24) ?_
        refine g_iloadN X0 hx (hb hby d_m_2_27) rfl rfl ?_
        exact g_retI X0 hx hret hlk (hb hby d_m_2_28) (by decide) (by decide) (by rw [e0]; exact ⟨(by unfold own_e4; rw [if_neg hc7, if_neg hc19, if_pos hc24]), N0, rfl⟩)
      · skip
        refine g_icmpY X0 hx (q := 29) (hb hby d_m_2_24) (XT.ii_ne_t hc24) (by decide) (by decide) ?_
        refine g_iloadN X0 hx (hb hby d_m_2_29) rfl rfl ?_
        refine g_iconst X0 hx (r := (4 : Int32)) (hb hby d_m_2_30) rfl rfl ?_
        refine g_icmpN X0 hx (hb hby d_m_2_31) rfl (XT.ii_lt_f (by decide : ¬ (4 : Int32) < (4 : Int32))) ?_
        refine g_iload X0 hx (hb hby d_m_2_34) rfl rfl ?_
        refine g_iloadN X0 hx (hb hby d_m_2_36) rfl rfl ?_
        by_cases hc37 : t3 = t0
        · skip
          refine g_icmpY X0 hx (q := 52) (hb hby d_m_2_37) (XT.ii_eq_t hc37) (by decide) (by decide) ?_
          refine g_iload X0 hx (hb hby d_m_2_52) rfl rfl ?_
          exact g_retI X0 hx hret hlk (hb hby d_m_2_54) (by decide) (by decide) (by rw [e0]; exact ⟨(by unfold own_e4; rw [if_neg hc7, if_neg hc19, if_neg hc24, if_pos hc37]), N0, rfl⟩)
        · skip
          refine g_icmpN X0 hx (hb hby d_m_2_37) rfl (XT.ii_eq_f hc37) ?_
          refine g_iload X0 hx (hb hby d_m_2_40) rfl rfl ?_
          refine g_iloadN X0 hx (hb hby d_m_2_42) rfl rfl ?_
          by_cases hc43 : t3 = t1
          · skip
            refine g_icmpY X0 hx (q := 52) (hb hby d_m_2_43) (XT.ii_eq_t hc43) (by decide) (by decide) ?_
            refine g_iload X0 hx (hb hby d_m_2_52) rfl rfl ?_
            exact g_retI X0 hx hret hlk (hb hby d_m_2_54) (by decide) (by decide) (by rw [e0]; exact ⟨(by unfold own_e4; rw [if_neg hc7, if_neg hc19, if_neg hc24, if_neg hc37, if_pos hc43]), N0, rfl⟩)
          · skip
            refine g_icmpN X0 hx (hb hby d_m_2_43) rfl (XT.ii_eq_f hc43) ?_
            refine g_iload X0 hx (hb hby d_m_2_46) rfl rfl ?_
            refine g_iloadN X0 hx (hb hby d_m_2_48) rfl rfl ?_
            by_cases hc49 : t3 = t2
            · skip
              refine g_icmpN X0 hx (hb hby d_m_2_49) rfl (XT.ii_ne_f hc49) ?_
              refine g_iload X0 hx (hb hby d_m_2_52) rfl rfl ?_
              exact g_retI X0 hx hret hlk (hb hby d_m_2_54) (by decide) (by decide) (by rw [e0]; exact ⟨(by unfold own_e4; rw [if_neg hc7, if_neg hc19, if_neg hc24, if_neg hc37, if_neg hc43, if_pos hc49]), N0, rfl⟩)
            · skip
              refine g_icmpY X0 hx (q := 55) (hb hby d_m_2_49) (XT.ii_ne_t hc49) (by decide) (by decide) ?_
              refine g_iloadN X0 hx (hb hby d_m_2_55) rfl rfl ?_
              refine g_iconst X0 hx (r := (5 : Int32)) (hb hby d_m_2_56) rfl rfl ?_
              refine g_icmpY X0 hx (q := 88) (hb hby d_m_2_57) (XT.ii_lt_t (by decide : (4 : Int32) < (5 : Int32))) (by decide) (by decide) ?_
              refine g_iconst X0 hx (r := (0 : Int32)) (hb hby d_m_2_88) rfl rfl ?_
              exact g_retI X0 hx hret hlk (hb hby d_m_2_89) (by decide) (by decide) (by rw [e0]; exact ⟨(by unfold own_e4; rw [if_neg hc7, if_neg hc19, if_neg hc24, if_neg hc37, if_neg hc43, if_neg hc49]), N0, rfl⟩)
def Q_ex5 (Z : State) (t0 : Int32) (t1 : Int32) (t2 : Int32) (t3 : Int32) (t4 : Int32) (h0 : Heap) (n0 : Nat) (v : Option Value) (h : Heap) (L : List Loc) : Prop := v = some (.int (own_e5 t0 t1 t2 t3 t4)) ∧ Fr n0 L ∧ h = h0
theorem ef_ex5 (m : MethodId) (x0 : Int32) (x1 : Int32) (x2 : Int32) (x3 : Int32) (x4 : Int32) (x5 : Int32) : entryFrame m #[(.int x0), (.int x1), (.int x2), (.int x3), (.int x4), (.int x5)] 6 = mkF m 0 #[.val (.int x0), .val (.int x1), .val (.int x2), .val (.int x3), .val (.int x4), .val (.int x5)] [] := by first | (simp [entryFrame, mkF, argsToLocals, Value.category]; done) | rfl
set_option maxRecDepth 65536 in
set_option maxHeartbeats 40000000 in
theorem rm_ex5 (l : Launch) (Z : State) (a0 : Array Value) (hw : ∀ d ∈ tables_1, d.before a0 Z = true) (t0 : Int32) (t1 : Int32) (t2 : Int32) (t3 : Int32) (t4 : Int32) (h0 : Heap) (n0 : Nat) (Z0 : n0 ≤ h0.size) :
    Ct l Z (⟨"com/example/crosstide/crosstide/fix/FixMessageRepeatedTagPinLaw", "expected", "(IIIIII)I"⟩ : MethodName) method_2_code 6 (some .int) [] ({ frames := 0, cells := 0, slots := 0, locals := 0 } : Room) #[(.int (5 : Int32)), (.int t0), (.int t1), (.int t2), (.int t3), (.int t4)] h0 (Q_ex5 Z t0 t1 t2 t3 t4 h0 n0) := by
  refine own_body (plainFor_of_name pn_1) (fun m => ef_ex5 m (5 : Int32) t0 t1 t2 t3 t4) ?_
  intro p e s m below meth c T0 hx hby hml hZ hown hnm hret hlk X0 e0
  have N0 := Fr.nil n0
  refine g_iloadN X0 hx (hb hby d_m_2_0) rfl rfl ?_
  refine g_iconst X0 hx (r := (2 : Int32)) (hb hby d_m_2_1) rfl rfl ?_
  refine g_icmpN X0 hx (hb hby d_m_2_2) rfl (XT.ii_lt_f (by decide : ¬ (5 : Int32) < (2 : Int32))) ?_
  refine g_iloadN X0 hx (hb hby d_m_2_5) rfl rfl ?_
  refine g_iloadN X0 hx (hb hby d_m_2_6) rfl rfl ?_
  by_cases hc7 : t1 = t0
  · skip
    refine g_icmpN X0 hx (hb hby d_m_2_7) rfl (XT.ii_ne_f hc7) ?_
    refine g_iloadN X0 hx (hb hby d_m_2_10) rfl rfl ?_
    exact g_retI X0 hx hret hlk (hb hby d_m_2_11) (by decide) (by decide) (by rw [e0]; exact ⟨(by unfold own_e5; rw [if_pos hc7]), N0, rfl⟩)
  · skip
    refine g_icmpY X0 hx (q := 12) (hb hby d_m_2_7) (XT.ii_ne_t hc7) (by decide) (by decide) ?_
    refine g_iloadN X0 hx (hb hby d_m_2_12) rfl rfl ?_
    refine g_iconst X0 hx (r := (3 : Int32)) (hb hby d_m_2_13) rfl rfl ?_
    refine g_icmpN X0 hx (hb hby d_m_2_14) rfl (XT.ii_lt_f (by decide : ¬ (5 : Int32) < (3 : Int32))) ?_
    refine g_iloadN X0 hx (hb hby d_m_2_17) rfl rfl ?_
    refine g_iloadN X0 hx (hb hby d_m_2_18) rfl rfl ?_
    by_cases hc19 : t2 = t0
    · skip
      refine g_icmpY X0 hx (q := 27) (hb hby d_m_2_19) (XT.ii_eq_t hc19) (by decide) (by decide) ?_
      refine g_iloadN X0 hx (hb hby d_m_2_27) rfl rfl ?_
      exact g_retI X0 hx hret hlk (hb hby d_m_2_28) (by decide) (by decide) (by rw [e0]; exact ⟨(by unfold own_e5; rw [if_neg hc7, if_pos hc19]), N0, rfl⟩)
    · skip
      refine g_icmpN X0 hx (hb hby d_m_2_19) rfl (XT.ii_eq_f hc19) ?_
      refine g_iloadN X0 hx (hb hby d_m_2_22) rfl rfl ?_
      refine g_iloadN X0 hx (hb hby d_m_2_23) rfl rfl ?_
      by_cases hc24 : t2 = t1
      · skip
        refine g_icmpN X0 hx (hb hby d_m_2_24) rfl (XT.ii_ne_f hc24) ?_
        refine g_iloadN X0 hx (hb hby d_m_2_27) rfl rfl ?_
        exact g_retI X0 hx hret hlk (hb hby d_m_2_28) (by decide) (by decide) (by rw [e0]; exact ⟨(by unfold own_e5; rw [if_neg hc7, if_neg hc19, if_pos hc24]), N0, rfl⟩)
      · skip
        refine g_icmpY X0 hx (q := 29) (hb hby d_m_2_24) (XT.ii_ne_t hc24) (by decide) (by decide) ?_
        refine g_iloadN X0 hx (hb hby d_m_2_29) rfl rfl ?_
        refine g_iconst X0 hx (r := (4 : Int32)) (hb hby d_m_2_30) rfl rfl ?_
        refine g_icmpN X0 hx (hb hby d_m_2_31) rfl (XT.ii_lt_f (by decide : ¬ (5 : Int32) < (4 : Int32))) ?_
        refine g_iload X0 hx (hb hby d_m_2_34) rfl rfl ?_
        refine g_iloadN X0 hx (hb hby d_m_2_36) rfl rfl ?_
        by_cases hc37 : t3 = t0
        · skip
          refine g_icmpY X0 hx (q := 52) (hb hby d_m_2_37) (XT.ii_eq_t hc37) (by decide) (by decide) ?_
          refine g_iload X0 hx (hb hby d_m_2_52) rfl rfl ?_
          exact g_retI X0 hx hret hlk (hb hby d_m_2_54) (by decide) (by decide) (by rw [e0]; exact ⟨(by unfold own_e5; rw [if_neg hc7, if_neg hc19, if_neg hc24, if_pos hc37]), N0, rfl⟩)
        · skip
          refine g_icmpN X0 hx (hb hby d_m_2_37) rfl (XT.ii_eq_f hc37) ?_
          refine g_iload X0 hx (hb hby d_m_2_40) rfl rfl ?_
          refine g_iloadN X0 hx (hb hby d_m_2_42) rfl rfl ?_
          by_cases hc43 : t3 = t1
          · skip
            refine g_icmpY X0 hx (q := 52) (hb hby d_m_2_43) (XT.ii_eq_t hc43) (by decide) (by decide) ?_
            refine g_iload X0 hx (hb hby d_m_2_52) rfl rfl ?_
            exact g_retI X0 hx hret hlk (hb hby d_m_2_54) (by decide) (by decide) (by rw [e0]; exact ⟨(by unfold own_e5; rw [if_neg hc7, if_neg hc19, if_neg hc24, if_neg hc37, if_pos hc43]), N0, rfl⟩)
          · skip
            refine g_icmpN X0 hx (hb hby d_m_2_43) rfl (XT.ii_eq_f hc43) ?_
            refine g_iload X0 hx (hb hby d_m_2_46) rfl rfl ?_
            refine g_iloadN X0 hx (hb hby d_m_2_48) rfl rfl ?_
            by_cases hc49 : t3 = t2
            · skip
              refine g_icmpN X0 hx (hb hby d_m_2_49) rfl (XT.ii_ne_f hc49) ?_
              refine g_iload X0 hx (hb hby d_m_2_52) rfl rfl ?_
              exact g_retI X0 hx hret hlk (hb hby d_m_2_54) (by decide) (by decide) (by rw [e0]; exact ⟨(by unfold own_e5; rw [if_neg hc7, if_neg hc19, if_neg hc24, if_neg hc37, if_neg hc43, if_pos hc49]), N0, rfl⟩)
            · skip
              refine g_icmpY X0 hx (q := 55) (hb hby d_m_2_49) (XT.ii_ne_t hc49) (by decide) (by decide) ?_
              refine g_iloadN X0 hx (hb hby d_m_2_55) rfl rfl ?_
              refine g_iconst X0 hx (r := (5 : Int32)) (hb hby d_m_2_56) rfl rfl ?_
              refine g_icmpN X0 hx (hb hby d_m_2_57) rfl (XT.ii_lt_f (by decide : ¬ (5 : Int32) < (5 : Int32))) ?_
              refine g_iload X0 hx (hb hby d_m_2_60) rfl rfl ?_
              refine g_iloadN X0 hx (hb hby d_m_2_62) rfl rfl ?_
              by_cases hc63 : t4 = t0
              · skip
                refine g_icmpY X0 hx (q := 85) (hb hby d_m_2_63) (XT.ii_eq_t hc63) (by decide) (by decide) ?_
                refine g_iload X0 hx (hb hby d_m_2_85) rfl rfl ?_
                exact g_retI X0 hx hret hlk (hb hby d_m_2_87) (by decide) (by decide) (by rw [e0]; exact ⟨(by unfold own_e5; rw [if_neg hc7, if_neg hc19, if_neg hc24, if_neg hc37, if_neg hc43, if_neg hc49, if_pos hc63]), N0, rfl⟩)
              · skip
                refine g_icmpN X0 hx (hb hby d_m_2_63) rfl (XT.ii_eq_f hc63) ?_
                refine g_iload X0 hx (hb hby d_m_2_66) rfl rfl ?_
                refine g_iloadN X0 hx (hb hby d_m_2_68) rfl rfl ?_
                by_cases hc69 : t4 = t1
                · skip
                  refine g_icmpY X0 hx (q := 85) (hb hby d_m_2_69) (XT.ii_eq_t hc69) (by decide) (by decide) ?_
                  refine g_iload X0 hx (hb hby d_m_2_85) rfl rfl ?_
                  exact g_retI X0 hx hret hlk (hb hby d_m_2_87) (by decide) (by decide) (by rw [e0]; exact ⟨(by unfold own_e5; rw [if_neg hc7, if_neg hc19, if_neg hc24, if_neg hc37, if_neg hc43, if_neg hc49, if_neg hc63, if_pos hc69]), N0, rfl⟩)
                · skip
                  refine g_icmpN X0 hx (hb hby d_m_2_69) rfl (XT.ii_eq_f hc69) ?_
                  refine g_iload X0 hx (hb hby d_m_2_72) rfl rfl ?_
                  refine g_iloadN X0 hx (hb hby d_m_2_74) rfl rfl ?_
                  by_cases hc75 : t4 = t2
                  · skip
                    refine g_icmpY X0 hx (q := 85) (hb hby d_m_2_75) (XT.ii_eq_t hc75) (by decide) (by decide) ?_
                    refine g_iload X0 hx (hb hby d_m_2_85) rfl rfl ?_
                    exact g_retI X0 hx hret hlk (hb hby d_m_2_87) (by decide) (by decide) (by rw [e0]; exact ⟨(by unfold own_e5; rw [if_neg hc7, if_neg hc19, if_neg hc24, if_neg hc37, if_neg hc43, if_neg hc49, if_neg hc63, if_neg hc69, if_pos hc75]), N0, rfl⟩)
                  · skip
                    refine g_icmpN X0 hx (hb hby d_m_2_75) rfl (XT.ii_eq_f hc75) ?_
                    refine g_iload X0 hx (hb hby d_m_2_78) rfl rfl ?_
                    refine g_iload X0 hx (hb hby d_m_2_80) rfl rfl ?_
                    by_cases hc82 : t4 = t3
                    · skip
                      refine g_icmpN X0 hx (hb hby d_m_2_82) rfl (XT.ii_ne_f hc82) ?_
                      refine g_iload X0 hx (hb hby d_m_2_85) rfl rfl ?_
                      exact g_retI X0 hx hret hlk (hb hby d_m_2_87) (by decide) (by decide) (by rw [e0]; exact ⟨(by unfold own_e5; rw [if_neg hc7, if_neg hc19, if_neg hc24, if_neg hc37, if_neg hc43, if_neg hc49, if_neg hc63, if_neg hc69, if_neg hc75, if_pos hc82]), N0, rfl⟩)
                    · skip
                      refine g_icmpY X0 hx (q := 88) (hb hby d_m_2_82) (XT.ii_ne_t hc82) (by decide) (by decide) ?_
                      refine g_iconst X0 hx (r := (0 : Int32)) (hb hby d_m_2_88) rfl rfl ?_
                      exact g_retI X0 hx hret hlk (hb hby d_m_2_89) (by decide) (by decide) (by rw [e0]; exact ⟨(by unfold own_e5; rw [if_neg hc7, if_neg hc19, if_neg hc24, if_neg hc37, if_neg hc43, if_neg hc49, if_neg hc63, if_neg hc69, if_neg hc75, if_neg hc82]), N0, rfl⟩)
def Q_law (Z : State) (p0 : Int32) (p1 : Int32) (p2 : Int32) (p3 : Int32) (p4 : Int32) (p5 : Int32) (h0 : Heap) (n0 : Nat) (v : Option Value) (h : Heap) (L : List Loc) : Prop := v = some (.int 1) ∧ Fr n0 L
theorem ef_law (m : MethodId) (x0 : Int32) (x1 : Int32) (x2 : Int32) (x3 : Int32) (x4 : Int32) (x5 : Int32) : entryFrame m #[(.int x0), (.int x1), (.int x2), (.int x3), (.int x4), (.int x5)] maxLocals = mkF m 0 #[.val (.int x0), .val (.int x1), .val (.int x2), .val (.int x3), .val (.int x4), .val (.int x5), .unset, .unset, .unset, .unset, .unset] [] := by first | (simp [entryFrame, mkF, argsToLocals, Value.category, maxLocals]; done) | rfl
set_option maxRecDepth 65536 in
set_option maxHeartbeats 40000000 in
theorem rm_law (l : Launch) (Z : State) (a0 : Array Value) (hw : ∀ d ∈ tables_1, d.before a0 Z = true) (ws : List Jvm.Cond) (p0 : Int32) (p1 : Int32) (p2 : Int32) (p3 : Int32) (p4 : Int32) (p5 : Int32) (h0 : Heap) (n0 : Nat) (Z0 : n0 ≤ h0.size) :
    Ct l Z x code maxLocals ret ws room_1 #[(.int p0), (.int p1), (.int p2), (.int p3), (.int p4), (.int p5)] h0 (Q_law Z p0 p1 p2 p3 p4 p5 h0 n0) := by
  refine own_body (plainFor_of_name pn_1) (fun m => ef_law m p0 p1 p2 p3 p4 p5) ?_
  intro p e s m below meth c T0 hx hby hml hZ hown hnm hret hlk X0 e0
  have N0 := Fr.nil n0
  refine g_iloadN X0 hx (hb hby at_0) rfl rfl ?_
  refine g_ldcI X0 hx hZ hown (hw _ (List.mem_of_getElem? (i := 0) rfl)) (hb hby at_1) rfl ?_
  refine g_iand X0 hx (hb hby at_3) rfl rfl ?_
  refine g_bipush X0 hx (r := (6 : Int32)) (hb hby at_4) rfl rfl ?_
  obtain ⟨v6, hv6⟩ : ∃ r, ((p0 &&& (2147483647 : Int32)) % (6 : Int32)) = r := ⟨_, rfl⟩
  refine g_irem X0 hx (hb hby at_6) rfl (by decide) hv6 ?_
  refine g_istore X0 hx (Ls' := #[.val (.int p0), .val (.int p1), .val (.int p2), .val (.int p3), .val (.int p4), .val (.int p5), .val (.int v6), .unset, .unset, .unset, .unset]) (hb hby at_7) rfl rfl ?_
  have hcs_v6 : v6 = (0 : Int32) ∨ v6 = (1 : Int32) ∨ v6 = (2 : Int32) ∨ v6 = (3 : Int32) ∨ v6 = (4 : Int32) ∨ v6 = (5 : Int32) := own_rem6 (own_mx rfl) hv6
  rcases hcs_v6 with rfl | rfl | rfl | rfl | rfl | rfl
  · skip
    refine g_iload X0 hx (hb hby at_9) rfl rfl ?_
    refine g_newarray X0 hx hZ (aty := .int) (hw _ (List.mem_of_getElem? (i := 1) rfl)) e0 (by decide) 0 (by decide) (by decide) (by decide) (by decide) (ad := "[I") (by decide) (hb hby at_11) rfl fun T1 h1 b1 ka1 X1 e1 q1 E1 A1 V1 => ?_
    have g_b1 : n0 ≤ b1 := Nat.le_trans Z0 (Nat.le_of_eq q1.symm)
    have Z1 : n0 ≤ h1.size := Nat.le_trans Z0 E1.1
    have Vn1 : Arv Z h1 b1 ka1 .int (0 : Int32) [] (.int (0 : Int32)) := V1
    refine g_astore X1 hx (Ls' := #[.val (.int p0), .val (.int p1), .val (.int p2), .val (.int p3), .val (.int p4), .val (.int p5), .val (.int (0 : Int32)), .val (.ref b1), .unset, .unset, .unset]) (hb hby at_13) rfl rfl rfl ?_
    refine g_iload X1 hx (hb hby at_15) rfl rfl ?_
    refine g_anewarray X1 hx hZ hown (hw _ (List.mem_of_getElem? (i := 2) rfl)) (hw _ (List.mem_of_getElem? (i := 3) rfl)) e1 (by decide) 0 (by decide) (by decide) (by decide) (by decide) (ad := "[Ljava/lang/String;") (by decide) (hb hby at_17) rfl fun T2 h2 b2 ka2 X2 e2 q2 E2 A2 O2 V2 => ?_
    have ne_b1_b2 : b1 ≠ b2 := own_ne Vn1.lt q2
    have g_b2 : n0 ≤ b2 := Nat.le_trans Z1 (Nat.le_of_eq q2.symm)
    have Z2 : n0 ≤ h2.size := Nat.le_trans Z1 E2.1
    have Vn2 : Arv Z h2 b2 ka2 (.object "java/lang/String") (0 : Int32) [] .null := V2
    refine g_astore X2 hx (Ls' := #[.val (.int p0), .val (.int p1), .val (.int p2), .val (.int p3), .val (.int p4), .val (.int p5), .val (.int (0 : Int32)), .val (.ref b1), .val (.ref b2), .unset, .unset]) (hb hby at_20) rfl rfl rfl ?_
    refine g_iload X2 hx (hb hby at_22) rfl rfl ?_
    refine g_ifY X2 hx (q := 32) (hb hby at_24) (XT.i0_le_t (by decide : ¬ (0 : Int32) < (0 : Int32))) (by decide) (by decide) ?_
    refine g_iload X2 hx (hb hby at_32) rfl rfl ?_
    refine g_iconst X2 hx (r := (1 : Int32)) (hb hby at_34) rfl rfl ?_
    refine g_icmpY X2 hx (q := 43) (hb hby at_35) (XT.ii_le_t (by decide : ¬ (1 : Int32) < (0 : Int32))) (by decide) (by decide) ?_
    refine g_iload X2 hx (hb hby at_43) rfl rfl ?_
    refine g_iconst X2 hx (r := (2 : Int32)) (hb hby at_45) rfl rfl ?_
    refine g_icmpY X2 hx (q := 54) (hb hby at_46) (XT.ii_le_t (by decide : ¬ (2 : Int32) < (0 : Int32))) (by decide) (by decide) ?_
    refine g_iload X2 hx (hb hby at_54) rfl rfl ?_
    refine g_iconst X2 hx (r := (3 : Int32)) (hb hby at_56) rfl rfl ?_
    refine g_icmpY X2 hx (q := 66) (hb hby at_57) (XT.ii_le_t (by decide : ¬ (3 : Int32) < (0 : Int32))) (by decide) (by decide) ?_
    refine g_iload X2 hx (hb hby at_66) rfl rfl ?_
    refine g_iconst X2 hx (r := (4 : Int32)) (hb hby at_68) rfl rfl ?_
    refine g_icmpY X2 hx (q := 78) (hb hby at_69) (XT.ii_le_t (by decide : ¬ (4 : Int32) < (0 : Int32))) (by decide) (by decide) ?_
    have f4 : Arv Z h2 b1 ka1 .int (0 : Int32) [] (.int (0 : Int32)) := (Vn1.ext E2)
    refine g_new X2 hx hZ hown (hw _ (List.mem_of_getElem? (i := 4) rfl)) (hw _ (List.mem_of_getElem? (i := 5) rfl)) (hw _ (List.mem_of_getElem? (i := 6) rfl)) e2 (hb hby at_78) rfl (by decide) (by decide) fun T3 h3 b3 X3 e3 q3 E3 A3 D3 => ?_
    have ne_b1_b3 : b1 ≠ b3 := own_ne f4.lt q3
    have ne_b2_b3 : b2 ≠ b3 := own_ne Vn2.lt q3
    have g_b3 : n0 ≤ b3 := Nat.le_trans Z2 (Nat.le_of_eq q3.symm)
    have Z3 : n0 ≤ h3.size := Nat.le_trans Z2 E3.1
    have F3_tags : Fld Z h3 b3 "com/example/crosstide/crosstide/fix/FixMessage" "tags" "[I" .null := D3 (Or.inr (hw _ (List.mem_of_getElem? (i := 14) rfl))) (ty := (.array .int)) (by decide)
    have F3_values : Fld Z h3 b3 "com/example/crosstide/crosstide/fix/FixMessage" "values" "[Ljava/lang/String;" .null := D3 (Or.inr (hw _ (List.mem_of_getElem? (i := 16) rfl))) (ty := (.array (.object "java/lang/String"))) (by decide)
    refine g_dup X3 hx (hb hby at_81) rfl rfl ?_
    refine g_aload X3 hx (hb hby at_82) rfl rfl rfl ?_
    refine g_aload X3 hx (hb hby at_84) rfl rfl rfl ?_
    refine g_special X3 hx hZ hown rfl (hw _ (List.mem_of_getElem? (i := 7) rfl)) (hw _ (List.mem_of_getElem? (i := 8) rfl)) (hw _ (List.mem_of_getElem? (i := 6) rfl)) (hw _ (List.mem_of_getElem? (i := 9) rfl)) (by decide) (a := b3) (rm_fini l Z a0 hw b3 b1 b2 h3 n0 Z3 F3_tags F3_values A3 g_b3) (by rw [hml]; rfl) e3 [(.ref b1), (.ref b2)] rfl rfl (W := 1) (Nat.le_of_eq rfl) (by decide) (by decide) (by decide) (by decide) (lenOf pd_0 rfl) (hb hby at_86) rfl fun v5 T5 L5 X5 hQ5 => ?_
    obtain ⟨rfl, Nq5, kc5, p5_0, p5_1, p5_2⟩ := hQ5
    have N5 := Fr.app N0 Nq5
    have Z5 : n0 ≤ T5.heap.size := Nat.le_trans Z3 kc5.1
    show Ga _ _ _ _ _ _ _ _ _ _ _ [(.ref b3)]
    refine g_astore X5 hx (Ls' := #[.val (.int p0), .val (.int p1), .val (.int p2), .val (.int p3), .val (.int p4), .val (.int p5), .val (.int (0 : Int32)), .val (.ref b1), .val (.ref b2), .val (.ref b3), .unset]) (hb hby at_89) rfl rfl rfl ?_
    refine g_aload X5 hx (hb hby at_91) rfl rfl rfl ?_
    have f7 : Arv Z T5.heap b1 ka1 .int (0 : Int32) [] (.int (0 : Int32)) := ((f4.ext E3).keep kc5 (ninS ne_b1_b3 nin0))
    refine g_virtual X5 hx hZ hown (hw _ (List.mem_of_getElem? (i := 17) rfl)) (hw _ (List.mem_of_getElem? (i := 18) rfl)) (notFace_of_selects (args := #[]) (mvT hZ (hw _ (List.mem_of_getElem? (i := 20) rfl)))) (hw _ (List.mem_of_getElem? (i := 20) rfl)) (hw _ (List.mem_of_getElem? (i := 19) rfl)) (hw _ (List.mem_of_getElem? (i := 6) rfl)) (hw _ (List.mem_of_getElem? (i := 21) rfl)) (by decide) (a := b3) p5_0 (rm_rt0 l Z a0 hw b3 b1 ka1 T5.heap n0 Z5 p5_1 f7) (by rw [hml]; rfl) rfl [] rfl rfl (W := 0) (Nat.le_of_eq rfl) (by decide) (by decide) (by decide) (by decide) (lenOf pd_1 rfl) (hb hby at_93) rfl fun v6 T6 L6 X6 hQ6 => ?_
    obtain ⟨rfl, Nq6, eh6⟩ := hQ6
    have N6 := Fr.app N5 Nq6
    show Ga _ _ _ _ _ _ _ _ _ _ _ [(.int own_e0)]
    refine g_istore X6 hx (Ls' := #[.val (.int p0), .val (.int p1), .val (.int p2), .val (.int p3), .val (.int p4), .val (.int p5), .val (.int (0 : Int32)), .val (.ref b1), .val (.ref b2), .val (.ref b3), .val (.int own_e0)]) (hb hby at_96) rfl rfl ?_
    refine g_iload X6 hx (hb hby at_98) rfl rfl ?_
    refine g_iload X6 hx (hb hby at_100) rfl rfl ?_
    refine g_iloadN X6 hx (hb hby at_102) rfl rfl ?_
    refine g_iloadN X6 hx (hb hby at_103) rfl rfl ?_
    refine g_iloadN X6 hx (hb hby at_104) rfl rfl ?_
    refine g_iload X6 hx (hb hby at_105) rfl rfl ?_
    refine g_iload X6 hx (hb hby at_107) rfl rfl ?_
    refine g_static X6 hx hZ hown (hw _ (List.mem_of_getElem? (i := 22) rfl)) (hw _ (List.mem_of_getElem? (i := 23) rfl)) (hw _ (List.mem_of_getElem? (i := 24) rfl)) (hw _ (List.mem_of_getElem? (i := 25) rfl)) (by decide) (rm_ex0 l Z a0 hw p1 p2 p3 p4 p5 T5.heap n0 Z5) (by rw [hml]; rfl) eh6 [(.int (0 : Int32)), (.int p1), (.int p2), (.int p3), (.int p4), (.int p5)] rfl rfl (W := 1) (Nat.le_of_eq rfl) (by decide) (by decide) (by decide) (by decide) (lenOf pd_2 rfl) (hb hby at_109) rfl fun v8 T8 L8 X8 hQ8 => ?_
    obtain ⟨rfl, Nq8, eh8⟩ := hQ8
    have N8 := Fr.app N6 Nq8
    show Ga _ _ _ _ _ _ _ _ _ _ _ [(.int own_e0), (.int own_e0)]
    refine g_icmpN X8 hx (hb hby at_112) rfl (XT.ii_ne_f rfl) ?_
    refine g_iconst X8 hx (r := (1 : Int32)) (hb hby at_115) rfl rfl ?_
    refine g_goto X8 hx (q := 120) (hb hby at_116) (by decide) (by decide) ?_
    exact g_retN X8 hx (t := .boolean) (r := (1 : Int32)) hret (by simp) hlk (hb hby at_120) rfl (by decide) (by decide) (by rw [eh8]; exact ⟨rfl, N8⟩)
  · skip
    refine g_iload X0 hx (hb hby at_9) rfl rfl ?_
    refine g_newarray X0 hx hZ (aty := .int) (hw _ (List.mem_of_getElem? (i := 1) rfl)) e0 (by decide) 1 (by decide) (by decide) (by decide) (by decide) (ad := "[I") (by decide) (hb hby at_11) rfl fun T9 h9 b9 ka9 X9 e9 q9 E9 A9 V9 => ?_
    have g_b9 : n0 ≤ b9 := Nat.le_trans Z0 (Nat.le_of_eq q9.symm)
    have Z9 : n0 ≤ h9.size := Nat.le_trans Z0 E9.1
    have Vn9 : Arv Z h9 b9 ka9 .int (1 : Int32) [(.int (0 : Int32))] (.int (0 : Int32)) := V9
    refine g_astore X9 hx (Ls' := #[.val (.int p0), .val (.int p1), .val (.int p2), .val (.int p3), .val (.int p4), .val (.int p5), .val (.int (1 : Int32)), .val (.ref b9), .unset, .unset, .unset]) (hb hby at_13) rfl rfl rfl ?_
    refine g_iload X9 hx (hb hby at_15) rfl rfl ?_
    refine g_anewarray X9 hx hZ hown (hw _ (List.mem_of_getElem? (i := 2) rfl)) (hw _ (List.mem_of_getElem? (i := 3) rfl)) e9 (by decide) 1 (by decide) (by decide) (by decide) (by decide) (ad := "[Ljava/lang/String;") (by decide) (hb hby at_17) rfl fun T10 h10 b10 ka10 X10 e10 q10 E10 A10 O10 V10 => ?_
    have ne_b9_b10 : b9 ≠ b10 := own_ne Vn9.lt q10
    have g_b10 : n0 ≤ b10 := Nat.le_trans Z9 (Nat.le_of_eq q10.symm)
    have Z10 : n0 ≤ h10.size := Nat.le_trans Z9 E10.1
    have Vn10 : Arv Z h10 b10 ka10 (.object "java/lang/String") (1 : Int32) [.null] .null := V10
    refine g_astore X10 hx (Ls' := #[.val (.int p0), .val (.int p1), .val (.int p2), .val (.int p3), .val (.int p4), .val (.int p5), .val (.int (1 : Int32)), .val (.ref b9), .val (.ref b10), .unset, .unset]) (hb hby at_20) rfl rfl rfl ?_
    refine g_iload X10 hx (hb hby at_22) rfl rfl ?_
    refine g_ifN X10 hx (hb hby at_24) rfl (XT.i0_le_f (by decide : (0 : Int32) < (1 : Int32))) ?_
    refine g_aload X10 hx (hb hby at_27) rfl rfl rfl ?_
    refine g_iconst X10 hx (r := (0 : Int32)) (hb hby at_29) rfl rfl ?_
    refine g_iloadN X10 hx (hb hby at_30) rfl rfl ?_
    have f11 : Arv Z h10 b9 ka9 .int (1 : Int32) [(.int (0 : Int32))] (.int (0 : Int32)) := (Vn9.ext E10)
    refine g_iastore X10 hx hZ e10 f11 ⟨by decide, by decide⟩ (Nat.le_of_ble_eq_true rfl) (hb hby at_31) rfl fun T12 h12 X12 e12 W12 V12 => ?_
    have Vn12 : Arv Z h12 b9 ka9 .int (1 : Int32) [(.int p1)] (.int (0 : Int32)) := V12
    have N12 := Fr.snoc X12 N0 g_b9
    have Z12 : n0 ≤ h12.size := by rw [W12.size]; exact Z10
    refine g_iload X12 hx (hb hby at_32) rfl rfl ?_
    refine g_iconst X12 hx (r := (1 : Int32)) (hb hby at_34) rfl rfl ?_
    refine g_icmpY X12 hx (q := 43) (hb hby at_35) (XT.ii_le_t (by decide : ¬ (1 : Int32) < (1 : Int32))) (by decide) (by decide) ?_
    refine g_iload X12 hx (hb hby at_43) rfl rfl ?_
    refine g_iconst X12 hx (r := (2 : Int32)) (hb hby at_45) rfl rfl ?_
    refine g_icmpY X12 hx (q := 54) (hb hby at_46) (XT.ii_le_t (by decide : ¬ (2 : Int32) < (1 : Int32))) (by decide) (by decide) ?_
    refine g_iload X12 hx (hb hby at_54) rfl rfl ?_
    refine g_iconst X12 hx (r := (3 : Int32)) (hb hby at_56) rfl rfl ?_
    refine g_icmpY X12 hx (q := 66) (hb hby at_57) (XT.ii_le_t (by decide : ¬ (3 : Int32) < (1 : Int32))) (by decide) (by decide) ?_
    refine g_iload X12 hx (hb hby at_66) rfl rfl ?_
    refine g_iconst X12 hx (r := (4 : Int32)) (hb hby at_68) rfl rfl ?_
    refine g_icmpY X12 hx (q := 78) (hb hby at_69) (XT.ii_le_t (by decide : ¬ (4 : Int32) < (1 : Int32))) (by decide) (by decide) ?_
    have f14 : Arv Z h12 b10 ka10 (.object "java/lang/String") (1 : Int32) [.null] .null := (Vn10.other W12 (Ne.symm ne_b9_b10))
    refine g_new X12 hx hZ hown (hw _ (List.mem_of_getElem? (i := 4) rfl)) (hw _ (List.mem_of_getElem? (i := 5) rfl)) (hw _ (List.mem_of_getElem? (i := 6) rfl)) e12 (hb hby at_78) rfl (by decide) (by decide) fun T13 h13 b13 X13 e13 q13 E13 A13 D13 => ?_
    have ne_b10_b13 : b10 ≠ b13 := own_ne f14.lt q13
    have ne_b9_b13 : b9 ≠ b13 := own_ne Vn12.lt q13
    have g_b13 : n0 ≤ b13 := Nat.le_trans Z12 (Nat.le_of_eq q13.symm)
    have Z13 : n0 ≤ h13.size := Nat.le_trans Z12 E13.1
    have F13_tags : Fld Z h13 b13 "com/example/crosstide/crosstide/fix/FixMessage" "tags" "[I" .null := D13 (Or.inr (hw _ (List.mem_of_getElem? (i := 14) rfl))) (ty := (.array .int)) (by decide)
    have F13_values : Fld Z h13 b13 "com/example/crosstide/crosstide/fix/FixMessage" "values" "[Ljava/lang/String;" .null := D13 (Or.inr (hw _ (List.mem_of_getElem? (i := 16) rfl))) (ty := (.array (.object "java/lang/String"))) (by decide)
    refine g_dup X13 hx (hb hby at_81) rfl rfl ?_
    refine g_aload X13 hx (hb hby at_82) rfl rfl rfl ?_
    refine g_aload X13 hx (hb hby at_84) rfl rfl rfl ?_
    refine g_special X13 hx hZ hown rfl (hw _ (List.mem_of_getElem? (i := 7) rfl)) (hw _ (List.mem_of_getElem? (i := 8) rfl)) (hw _ (List.mem_of_getElem? (i := 6) rfl)) (hw _ (List.mem_of_getElem? (i := 9) rfl)) (by decide) (a := b13) (rm_fini l Z a0 hw b13 b9 b10 h13 n0 Z13 F13_tags F13_values A13 g_b13) (by rw [hml]; rfl) e13 [(.ref b9), (.ref b10)] rfl rfl (W := 1) (Nat.le_of_eq rfl) (by decide) (by decide) (by decide) (by decide) (lenOf pd_0 rfl) (hb hby at_86) rfl fun v15 T15 L15 X15 hQ15 => ?_
    obtain ⟨rfl, Nq15, kc15, p15_0, p15_1, p15_2⟩ := hQ15
    have N15 := Fr.app N12 Nq15
    have Z15 : n0 ≤ T15.heap.size := Nat.le_trans Z13 kc15.1
    show Ga _ _ _ _ _ _ _ _ _ _ _ [(.ref b13)]
    refine g_astore X15 hx (Ls' := #[.val (.int p0), .val (.int p1), .val (.int p2), .val (.int p3), .val (.int p4), .val (.int p5), .val (.int (1 : Int32)), .val (.ref b9), .val (.ref b10), .val (.ref b13), .unset]) (hb hby at_89) rfl rfl rfl ?_
    refine g_aload X15 hx (hb hby at_91) rfl rfl rfl ?_
    have f17 : Arv Z T15.heap b9 ka9 .int (1 : Int32) [(.int p1)] (.int (0 : Int32)) := ((Vn12.ext E13).keep kc15 (ninS ne_b9_b13 nin0))
    refine g_virtual X15 hx hZ hown (hw _ (List.mem_of_getElem? (i := 17) rfl)) (hw _ (List.mem_of_getElem? (i := 18) rfl)) (notFace_of_selects (args := #[]) (mvT hZ (hw _ (List.mem_of_getElem? (i := 20) rfl)))) (hw _ (List.mem_of_getElem? (i := 20) rfl)) (hw _ (List.mem_of_getElem? (i := 19) rfl)) (hw _ (List.mem_of_getElem? (i := 6) rfl)) (hw _ (List.mem_of_getElem? (i := 21) rfl)) (by decide) (a := b13) p15_0 (rm_rt1 l Z a0 hw b13 b9 ka9 p1 T15.heap n0 Z15 p15_1 f17) (by rw [hml]; rfl) rfl [] rfl rfl (W := 0) (Nat.le_of_eq rfl) (by decide) (by decide) (by decide) (by decide) (lenOf pd_1 rfl) (hb hby at_93) rfl fun v16 T16 L16 X16 hQ16 => ?_
    obtain ⟨rfl, Nq16, eh16⟩ := hQ16
    have N16 := Fr.app N15 Nq16
    show Ga _ _ _ _ _ _ _ _ _ _ _ [(.int (own_e1 p1))]
    refine g_istore X16 hx (Ls' := #[.val (.int p0), .val (.int p1), .val (.int p2), .val (.int p3), .val (.int p4), .val (.int p5), .val (.int (1 : Int32)), .val (.ref b9), .val (.ref b10), .val (.ref b13), .val (.int (own_e1 p1))]) (hb hby at_96) rfl rfl ?_
    refine g_iload X16 hx (hb hby at_98) rfl rfl ?_
    refine g_iload X16 hx (hb hby at_100) rfl rfl ?_
    refine g_iloadN X16 hx (hb hby at_102) rfl rfl ?_
    refine g_iloadN X16 hx (hb hby at_103) rfl rfl ?_
    refine g_iloadN X16 hx (hb hby at_104) rfl rfl ?_
    refine g_iload X16 hx (hb hby at_105) rfl rfl ?_
    refine g_iload X16 hx (hb hby at_107) rfl rfl ?_
    refine g_static X16 hx hZ hown (hw _ (List.mem_of_getElem? (i := 22) rfl)) (hw _ (List.mem_of_getElem? (i := 23) rfl)) (hw _ (List.mem_of_getElem? (i := 24) rfl)) (hw _ (List.mem_of_getElem? (i := 25) rfl)) (by decide) (rm_ex1 l Z a0 hw p1 p2 p3 p4 p5 T15.heap n0 Z15) (by rw [hml]; rfl) eh16 [(.int (1 : Int32)), (.int p1), (.int p2), (.int p3), (.int p4), (.int p5)] rfl rfl (W := 1) (Nat.le_of_eq rfl) (by decide) (by decide) (by decide) (by decide) (lenOf pd_2 rfl) (hb hby at_109) rfl fun v18 T18 L18 X18 hQ18 => ?_
    obtain ⟨rfl, Nq18, eh18⟩ := hQ18
    have N18 := Fr.app N16 Nq18
    show Ga _ _ _ _ _ _ _ _ _ _ _ [(.int (own_e1 p1)), (.int (own_e1 p1))]
    refine g_icmpN X18 hx (hb hby at_112) rfl (XT.ii_ne_f rfl) ?_
    refine g_iconst X18 hx (r := (1 : Int32)) (hb hby at_115) rfl rfl ?_
    refine g_goto X18 hx (q := 120) (hb hby at_116) (by decide) (by decide) ?_
    exact g_retN X18 hx (t := .boolean) (r := (1 : Int32)) hret (by simp) hlk (hb hby at_120) rfl (by decide) (by decide) (by rw [eh18]; exact ⟨rfl, N18⟩)
  · skip
    refine g_iload X0 hx (hb hby at_9) rfl rfl ?_
    refine g_newarray X0 hx hZ (aty := .int) (hw _ (List.mem_of_getElem? (i := 1) rfl)) e0 (by decide) 2 (by decide) (by decide) (by decide) (by decide) (ad := "[I") (by decide) (hb hby at_11) rfl fun T19 h19 b19 ka19 X19 e19 q19 E19 A19 V19 => ?_
    have g_b19 : n0 ≤ b19 := Nat.le_trans Z0 (Nat.le_of_eq q19.symm)
    have Z19 : n0 ≤ h19.size := Nat.le_trans Z0 E19.1
    have Vn19 : Arv Z h19 b19 ka19 .int (2 : Int32) [(.int (0 : Int32)), (.int (0 : Int32))] (.int (0 : Int32)) := V19
    refine g_astore X19 hx (Ls' := #[.val (.int p0), .val (.int p1), .val (.int p2), .val (.int p3), .val (.int p4), .val (.int p5), .val (.int (2 : Int32)), .val (.ref b19), .unset, .unset, .unset]) (hb hby at_13) rfl rfl rfl ?_
    refine g_iload X19 hx (hb hby at_15) rfl rfl ?_
    refine g_anewarray X19 hx hZ hown (hw _ (List.mem_of_getElem? (i := 2) rfl)) (hw _ (List.mem_of_getElem? (i := 3) rfl)) e19 (by decide) 2 (by decide) (by decide) (by decide) (by decide) (ad := "[Ljava/lang/String;") (by decide) (hb hby at_17) rfl fun T20 h20 b20 ka20 X20 e20 q20 E20 A20 O20 V20 => ?_
    have ne_b19_b20 : b19 ≠ b20 := own_ne Vn19.lt q20
    have g_b20 : n0 ≤ b20 := Nat.le_trans Z19 (Nat.le_of_eq q20.symm)
    have Z20 : n0 ≤ h20.size := Nat.le_trans Z19 E20.1
    have Vn20 : Arv Z h20 b20 ka20 (.object "java/lang/String") (2 : Int32) [.null, .null] .null := V20
    refine g_astore X20 hx (Ls' := #[.val (.int p0), .val (.int p1), .val (.int p2), .val (.int p3), .val (.int p4), .val (.int p5), .val (.int (2 : Int32)), .val (.ref b19), .val (.ref b20), .unset, .unset]) (hb hby at_20) rfl rfl rfl ?_
    refine g_iload X20 hx (hb hby at_22) rfl rfl ?_
    refine g_ifN X20 hx (hb hby at_24) rfl (XT.i0_le_f (by decide : (0 : Int32) < (2 : Int32))) ?_
    refine g_aload X20 hx (hb hby at_27) rfl rfl rfl ?_
    refine g_iconst X20 hx (r := (0 : Int32)) (hb hby at_29) rfl rfl ?_
    refine g_iloadN X20 hx (hb hby at_30) rfl rfl ?_
    have f21 : Arv Z h20 b19 ka19 .int (2 : Int32) [(.int (0 : Int32)), (.int (0 : Int32))] (.int (0 : Int32)) := (Vn19.ext E20)
    refine g_iastore X20 hx hZ e20 f21 ⟨by decide, by decide⟩ (Nat.le_of_ble_eq_true rfl) (hb hby at_31) rfl fun T22 h22 X22 e22 W22 V22 => ?_
    have Vn22 : Arv Z h22 b19 ka19 .int (2 : Int32) [(.int p1), (.int (0 : Int32))] (.int (0 : Int32)) := V22
    have N22 := Fr.snoc X22 N0 g_b19
    have Z22 : n0 ≤ h22.size := by rw [W22.size]; exact Z20
    refine g_iload X22 hx (hb hby at_32) rfl rfl ?_
    refine g_iconst X22 hx (r := (1 : Int32)) (hb hby at_34) rfl rfl ?_
    refine g_icmpN X22 hx (hb hby at_35) rfl (XT.ii_le_f (by decide : (1 : Int32) < (2 : Int32))) ?_
    refine g_aload X22 hx (hb hby at_38) rfl rfl rfl ?_
    refine g_iconst X22 hx (r := (1 : Int32)) (hb hby at_40) rfl rfl ?_
    refine g_iloadN X22 hx (hb hby at_41) rfl rfl ?_
    refine g_iastore X22 hx hZ e22 Vn22 ⟨by decide, by decide⟩ (Nat.le_of_ble_eq_true rfl) (hb hby at_42) rfl fun T23 h23 X23 e23 W23 V23 => ?_
    have Vn23 : Arv Z h23 b19 ka19 .int (2 : Int32) [(.int p1), (.int p2)] (.int (0 : Int32)) := V23
    have N23 := Fr.snoc X23 N22 g_b19
    have Z23 : n0 ≤ h23.size := by rw [W23.size]; exact Z22
    refine g_iload X23 hx (hb hby at_43) rfl rfl ?_
    refine g_iconst X23 hx (r := (2 : Int32)) (hb hby at_45) rfl rfl ?_
    refine g_icmpY X23 hx (q := 54) (hb hby at_46) (XT.ii_le_t (by decide : ¬ (2 : Int32) < (2 : Int32))) (by decide) (by decide) ?_
    refine g_iload X23 hx (hb hby at_54) rfl rfl ?_
    refine g_iconst X23 hx (r := (3 : Int32)) (hb hby at_56) rfl rfl ?_
    refine g_icmpY X23 hx (q := 66) (hb hby at_57) (XT.ii_le_t (by decide : ¬ (3 : Int32) < (2 : Int32))) (by decide) (by decide) ?_
    refine g_iload X23 hx (hb hby at_66) rfl rfl ?_
    refine g_iconst X23 hx (r := (4 : Int32)) (hb hby at_68) rfl rfl ?_
    refine g_icmpY X23 hx (q := 78) (hb hby at_69) (XT.ii_le_t (by decide : ¬ (4 : Int32) < (2 : Int32))) (by decide) (by decide) ?_
    have f25 : Arv Z h23 b20 ka20 (.object "java/lang/String") (2 : Int32) [.null, .null] .null := ((Vn20.other W22 (Ne.symm ne_b19_b20)).other W23 (Ne.symm ne_b19_b20))
    refine g_new X23 hx hZ hown (hw _ (List.mem_of_getElem? (i := 4) rfl)) (hw _ (List.mem_of_getElem? (i := 5) rfl)) (hw _ (List.mem_of_getElem? (i := 6) rfl)) e23 (hb hby at_78) rfl (by decide) (by decide) fun T24 h24 b24 X24 e24 q24 E24 A24 D24 => ?_
    have ne_b19_b24 : b19 ≠ b24 := own_ne Vn23.lt q24
    have ne_b20_b24 : b20 ≠ b24 := own_ne f25.lt q24
    have g_b24 : n0 ≤ b24 := Nat.le_trans Z23 (Nat.le_of_eq q24.symm)
    have Z24 : n0 ≤ h24.size := Nat.le_trans Z23 E24.1
    have F24_tags : Fld Z h24 b24 "com/example/crosstide/crosstide/fix/FixMessage" "tags" "[I" .null := D24 (Or.inr (hw _ (List.mem_of_getElem? (i := 14) rfl))) (ty := (.array .int)) (by decide)
    have F24_values : Fld Z h24 b24 "com/example/crosstide/crosstide/fix/FixMessage" "values" "[Ljava/lang/String;" .null := D24 (Or.inr (hw _ (List.mem_of_getElem? (i := 16) rfl))) (ty := (.array (.object "java/lang/String"))) (by decide)
    refine g_dup X24 hx (hb hby at_81) rfl rfl ?_
    refine g_aload X24 hx (hb hby at_82) rfl rfl rfl ?_
    refine g_aload X24 hx (hb hby at_84) rfl rfl rfl ?_
    refine g_special X24 hx hZ hown rfl (hw _ (List.mem_of_getElem? (i := 7) rfl)) (hw _ (List.mem_of_getElem? (i := 8) rfl)) (hw _ (List.mem_of_getElem? (i := 6) rfl)) (hw _ (List.mem_of_getElem? (i := 9) rfl)) (by decide) (a := b24) (rm_fini l Z a0 hw b24 b19 b20 h24 n0 Z24 F24_tags F24_values A24 g_b24) (by rw [hml]; rfl) e24 [(.ref b19), (.ref b20)] rfl rfl (W := 1) (Nat.le_of_eq rfl) (by decide) (by decide) (by decide) (by decide) (lenOf pd_0 rfl) (hb hby at_86) rfl fun v26 T26 L26 X26 hQ26 => ?_
    obtain ⟨rfl, Nq26, kc26, p26_0, p26_1, p26_2⟩ := hQ26
    have N26 := Fr.app N23 Nq26
    have Z26 : n0 ≤ T26.heap.size := Nat.le_trans Z24 kc26.1
    show Ga _ _ _ _ _ _ _ _ _ _ _ [(.ref b24)]
    refine g_astore X26 hx (Ls' := #[.val (.int p0), .val (.int p1), .val (.int p2), .val (.int p3), .val (.int p4), .val (.int p5), .val (.int (2 : Int32)), .val (.ref b19), .val (.ref b20), .val (.ref b24), .unset]) (hb hby at_89) rfl rfl rfl ?_
    refine g_aload X26 hx (hb hby at_91) rfl rfl rfl ?_
    have f28 : Arv Z T26.heap b19 ka19 .int (2 : Int32) [(.int p1), (.int p2)] (.int (0 : Int32)) := ((Vn23.ext E24).keep kc26 (ninS ne_b19_b24 nin0))
    refine g_virtual X26 hx hZ hown (hw _ (List.mem_of_getElem? (i := 17) rfl)) (hw _ (List.mem_of_getElem? (i := 18) rfl)) (notFace_of_selects (args := #[]) (mvT hZ (hw _ (List.mem_of_getElem? (i := 20) rfl)))) (hw _ (List.mem_of_getElem? (i := 20) rfl)) (hw _ (List.mem_of_getElem? (i := 19) rfl)) (hw _ (List.mem_of_getElem? (i := 6) rfl)) (hw _ (List.mem_of_getElem? (i := 21) rfl)) (by decide) (a := b24) p26_0 (rm_rt2 l Z a0 hw b24 b19 ka19 p1 p2 T26.heap n0 Z26 p26_1 f28) (by rw [hml]; rfl) rfl [] rfl rfl (W := 0) (Nat.le_of_eq rfl) (by decide) (by decide) (by decide) (by decide) (lenOf pd_1 rfl) (hb hby at_93) rfl fun v27 T27 L27 X27 hQ27 => ?_
    obtain ⟨rfl, Nq27, eh27⟩ := hQ27
    have N27 := Fr.app N26 Nq27
    show Ga _ _ _ _ _ _ _ _ _ _ _ [(.int (own_e2 p1 p2))]
    refine g_istore X27 hx (Ls' := #[.val (.int p0), .val (.int p1), .val (.int p2), .val (.int p3), .val (.int p4), .val (.int p5), .val (.int (2 : Int32)), .val (.ref b19), .val (.ref b20), .val (.ref b24), .val (.int (own_e2 p1 p2))]) (hb hby at_96) rfl rfl ?_
    refine g_iload X27 hx (hb hby at_98) rfl rfl ?_
    refine g_iload X27 hx (hb hby at_100) rfl rfl ?_
    refine g_iloadN X27 hx (hb hby at_102) rfl rfl ?_
    refine g_iloadN X27 hx (hb hby at_103) rfl rfl ?_
    refine g_iloadN X27 hx (hb hby at_104) rfl rfl ?_
    refine g_iload X27 hx (hb hby at_105) rfl rfl ?_
    refine g_iload X27 hx (hb hby at_107) rfl rfl ?_
    refine g_static X27 hx hZ hown (hw _ (List.mem_of_getElem? (i := 22) rfl)) (hw _ (List.mem_of_getElem? (i := 23) rfl)) (hw _ (List.mem_of_getElem? (i := 24) rfl)) (hw _ (List.mem_of_getElem? (i := 25) rfl)) (by decide) (rm_ex2 l Z a0 hw p1 p2 p3 p4 p5 T26.heap n0 Z26) (by rw [hml]; rfl) eh27 [(.int (2 : Int32)), (.int p1), (.int p2), (.int p3), (.int p4), (.int p5)] rfl rfl (W := 1) (Nat.le_of_eq rfl) (by decide) (by decide) (by decide) (by decide) (lenOf pd_2 rfl) (hb hby at_109) rfl fun v29 T29 L29 X29 hQ29 => ?_
    obtain ⟨rfl, Nq29, eh29⟩ := hQ29
    have N29 := Fr.app N27 Nq29
    show Ga _ _ _ _ _ _ _ _ _ _ _ [(.int (own_e2 p1 p2)), (.int (own_e2 p1 p2))]
    refine g_icmpN X29 hx (hb hby at_112) rfl (XT.ii_ne_f rfl) ?_
    refine g_iconst X29 hx (r := (1 : Int32)) (hb hby at_115) rfl rfl ?_
    refine g_goto X29 hx (q := 120) (hb hby at_116) (by decide) (by decide) ?_
    exact g_retN X29 hx (t := .boolean) (r := (1 : Int32)) hret (by simp) hlk (hb hby at_120) rfl (by decide) (by decide) (by rw [eh29]; exact ⟨rfl, N29⟩)
  · skip
    refine g_iload X0 hx (hb hby at_9) rfl rfl ?_
    refine g_newarray X0 hx hZ (aty := .int) (hw _ (List.mem_of_getElem? (i := 1) rfl)) e0 (by decide) 3 (by decide) (by decide) (by decide) (by decide) (ad := "[I") (by decide) (hb hby at_11) rfl fun T30 h30 b30 ka30 X30 e30 q30 E30 A30 V30 => ?_
    have g_b30 : n0 ≤ b30 := Nat.le_trans Z0 (Nat.le_of_eq q30.symm)
    have Z30 : n0 ≤ h30.size := Nat.le_trans Z0 E30.1
    have Vn30 : Arv Z h30 b30 ka30 .int (3 : Int32) [(.int (0 : Int32)), (.int (0 : Int32)), (.int (0 : Int32))] (.int (0 : Int32)) := V30
    refine g_astore X30 hx (Ls' := #[.val (.int p0), .val (.int p1), .val (.int p2), .val (.int p3), .val (.int p4), .val (.int p5), .val (.int (3 : Int32)), .val (.ref b30), .unset, .unset, .unset]) (hb hby at_13) rfl rfl rfl ?_
    refine g_iload X30 hx (hb hby at_15) rfl rfl ?_
    refine g_anewarray X30 hx hZ hown (hw _ (List.mem_of_getElem? (i := 2) rfl)) (hw _ (List.mem_of_getElem? (i := 3) rfl)) e30 (by decide) 3 (by decide) (by decide) (by decide) (by decide) (ad := "[Ljava/lang/String;") (by decide) (hb hby at_17) rfl fun T31 h31 b31 ka31 X31 e31 q31 E31 A31 O31 V31 => ?_
    have ne_b30_b31 : b30 ≠ b31 := own_ne Vn30.lt q31
    have g_b31 : n0 ≤ b31 := Nat.le_trans Z30 (Nat.le_of_eq q31.symm)
    have Z31 : n0 ≤ h31.size := Nat.le_trans Z30 E31.1
    have Vn31 : Arv Z h31 b31 ka31 (.object "java/lang/String") (3 : Int32) [.null, .null, .null] .null := V31
    refine g_astore X31 hx (Ls' := #[.val (.int p0), .val (.int p1), .val (.int p2), .val (.int p3), .val (.int p4), .val (.int p5), .val (.int (3 : Int32)), .val (.ref b30), .val (.ref b31), .unset, .unset]) (hb hby at_20) rfl rfl rfl ?_
    refine g_iload X31 hx (hb hby at_22) rfl rfl ?_
    refine g_ifN X31 hx (hb hby at_24) rfl (XT.i0_le_f (by decide : (0 : Int32) < (3 : Int32))) ?_
    refine g_aload X31 hx (hb hby at_27) rfl rfl rfl ?_
    refine g_iconst X31 hx (r := (0 : Int32)) (hb hby at_29) rfl rfl ?_
    refine g_iloadN X31 hx (hb hby at_30) rfl rfl ?_
    have f32 : Arv Z h31 b30 ka30 .int (3 : Int32) [(.int (0 : Int32)), (.int (0 : Int32)), (.int (0 : Int32))] (.int (0 : Int32)) := (Vn30.ext E31)
    refine g_iastore X31 hx hZ e31 f32 ⟨by decide, by decide⟩ (Nat.le_of_ble_eq_true rfl) (hb hby at_31) rfl fun T33 h33 X33 e33 W33 V33 => ?_
    have Vn33 : Arv Z h33 b30 ka30 .int (3 : Int32) [(.int p1), (.int (0 : Int32)), (.int (0 : Int32))] (.int (0 : Int32)) := V33
    have N33 := Fr.snoc X33 N0 g_b30
    have Z33 : n0 ≤ h33.size := by rw [W33.size]; exact Z31
    refine g_iload X33 hx (hb hby at_32) rfl rfl ?_
    refine g_iconst X33 hx (r := (1 : Int32)) (hb hby at_34) rfl rfl ?_
    refine g_icmpN X33 hx (hb hby at_35) rfl (XT.ii_le_f (by decide : (1 : Int32) < (3 : Int32))) ?_
    refine g_aload X33 hx (hb hby at_38) rfl rfl rfl ?_
    refine g_iconst X33 hx (r := (1 : Int32)) (hb hby at_40) rfl rfl ?_
    refine g_iloadN X33 hx (hb hby at_41) rfl rfl ?_
    refine g_iastore X33 hx hZ e33 Vn33 ⟨by decide, by decide⟩ (Nat.le_of_ble_eq_true rfl) (hb hby at_42) rfl fun T34 h34 X34 e34 W34 V34 => ?_
    have Vn34 : Arv Z h34 b30 ka30 .int (3 : Int32) [(.int p1), (.int p2), (.int (0 : Int32))] (.int (0 : Int32)) := V34
    have N34 := Fr.snoc X34 N33 g_b30
    have Z34 : n0 ≤ h34.size := by rw [W34.size]; exact Z33
    refine g_iload X34 hx (hb hby at_43) rfl rfl ?_
    refine g_iconst X34 hx (r := (2 : Int32)) (hb hby at_45) rfl rfl ?_
    refine g_icmpN X34 hx (hb hby at_46) rfl (XT.ii_le_f (by decide : (2 : Int32) < (3 : Int32))) ?_
    refine g_aload X34 hx (hb hby at_49) rfl rfl rfl ?_
    refine g_iconst X34 hx (r := (2 : Int32)) (hb hby at_51) rfl rfl ?_
    refine g_iloadN X34 hx (hb hby at_52) rfl rfl ?_
    refine g_iastore X34 hx hZ e34 Vn34 ⟨by decide, by decide⟩ (Nat.le_of_ble_eq_true rfl) (hb hby at_53) rfl fun T35 h35 X35 e35 W35 V35 => ?_
    have Vn35 : Arv Z h35 b30 ka30 .int (3 : Int32) [(.int p1), (.int p2), (.int p3)] (.int (0 : Int32)) := V35
    have N35 := Fr.snoc X35 N34 g_b30
    have Z35 : n0 ≤ h35.size := by rw [W35.size]; exact Z34
    refine g_iload X35 hx (hb hby at_54) rfl rfl ?_
    refine g_iconst X35 hx (r := (3 : Int32)) (hb hby at_56) rfl rfl ?_
    refine g_icmpY X35 hx (q := 66) (hb hby at_57) (XT.ii_le_t (by decide : ¬ (3 : Int32) < (3 : Int32))) (by decide) (by decide) ?_
    refine g_iload X35 hx (hb hby at_66) rfl rfl ?_
    refine g_iconst X35 hx (r := (4 : Int32)) (hb hby at_68) rfl rfl ?_
    refine g_icmpY X35 hx (q := 78) (hb hby at_69) (XT.ii_le_t (by decide : ¬ (4 : Int32) < (3 : Int32))) (by decide) (by decide) ?_
    have f37 : Arv Z h35 b31 ka31 (.object "java/lang/String") (3 : Int32) [.null, .null, .null] .null := (((Vn31.other W33 (Ne.symm ne_b30_b31)).other W34 (Ne.symm ne_b30_b31)).other W35 (Ne.symm ne_b30_b31))
    refine g_new X35 hx hZ hown (hw _ (List.mem_of_getElem? (i := 4) rfl)) (hw _ (List.mem_of_getElem? (i := 5) rfl)) (hw _ (List.mem_of_getElem? (i := 6) rfl)) e35 (hb hby at_78) rfl (by decide) (by decide) fun T36 h36 b36 X36 e36 q36 E36 A36 D36 => ?_
    have ne_b30_b36 : b30 ≠ b36 := own_ne Vn35.lt q36
    have ne_b31_b36 : b31 ≠ b36 := own_ne f37.lt q36
    have g_b36 : n0 ≤ b36 := Nat.le_trans Z35 (Nat.le_of_eq q36.symm)
    have Z36 : n0 ≤ h36.size := Nat.le_trans Z35 E36.1
    have F36_tags : Fld Z h36 b36 "com/example/crosstide/crosstide/fix/FixMessage" "tags" "[I" .null := D36 (Or.inr (hw _ (List.mem_of_getElem? (i := 14) rfl))) (ty := (.array .int)) (by decide)
    have F36_values : Fld Z h36 b36 "com/example/crosstide/crosstide/fix/FixMessage" "values" "[Ljava/lang/String;" .null := D36 (Or.inr (hw _ (List.mem_of_getElem? (i := 16) rfl))) (ty := (.array (.object "java/lang/String"))) (by decide)
    refine g_dup X36 hx (hb hby at_81) rfl rfl ?_
    refine g_aload X36 hx (hb hby at_82) rfl rfl rfl ?_
    refine g_aload X36 hx (hb hby at_84) rfl rfl rfl ?_
    refine g_special X36 hx hZ hown rfl (hw _ (List.mem_of_getElem? (i := 7) rfl)) (hw _ (List.mem_of_getElem? (i := 8) rfl)) (hw _ (List.mem_of_getElem? (i := 6) rfl)) (hw _ (List.mem_of_getElem? (i := 9) rfl)) (by decide) (a := b36) (rm_fini l Z a0 hw b36 b30 b31 h36 n0 Z36 F36_tags F36_values A36 g_b36) (by rw [hml]; rfl) e36 [(.ref b30), (.ref b31)] rfl rfl (W := 1) (Nat.le_of_eq rfl) (by decide) (by decide) (by decide) (by decide) (lenOf pd_0 rfl) (hb hby at_86) rfl fun v38 T38 L38 X38 hQ38 => ?_
    obtain ⟨rfl, Nq38, kc38, p38_0, p38_1, p38_2⟩ := hQ38
    have N38 := Fr.app N35 Nq38
    have Z38 : n0 ≤ T38.heap.size := Nat.le_trans Z36 kc38.1
    show Ga _ _ _ _ _ _ _ _ _ _ _ [(.ref b36)]
    refine g_astore X38 hx (Ls' := #[.val (.int p0), .val (.int p1), .val (.int p2), .val (.int p3), .val (.int p4), .val (.int p5), .val (.int (3 : Int32)), .val (.ref b30), .val (.ref b31), .val (.ref b36), .unset]) (hb hby at_89) rfl rfl rfl ?_
    refine g_aload X38 hx (hb hby at_91) rfl rfl rfl ?_
    have f40 : Arv Z T38.heap b30 ka30 .int (3 : Int32) [(.int p1), (.int p2), (.int p3)] (.int (0 : Int32)) := ((Vn35.ext E36).keep kc38 (ninS ne_b30_b36 nin0))
    refine g_virtual X38 hx hZ hown (hw _ (List.mem_of_getElem? (i := 17) rfl)) (hw _ (List.mem_of_getElem? (i := 18) rfl)) (notFace_of_selects (args := #[]) (mvT hZ (hw _ (List.mem_of_getElem? (i := 20) rfl)))) (hw _ (List.mem_of_getElem? (i := 20) rfl)) (hw _ (List.mem_of_getElem? (i := 19) rfl)) (hw _ (List.mem_of_getElem? (i := 6) rfl)) (hw _ (List.mem_of_getElem? (i := 21) rfl)) (by decide) (a := b36) p38_0 (rm_rt3 l Z a0 hw b36 b30 ka30 p1 p2 p3 T38.heap n0 Z38 p38_1 f40) (by rw [hml]; rfl) rfl [] rfl rfl (W := 0) (Nat.le_of_eq rfl) (by decide) (by decide) (by decide) (by decide) (lenOf pd_1 rfl) (hb hby at_93) rfl fun v39 T39 L39 X39 hQ39 => ?_
    obtain ⟨rfl, Nq39, eh39⟩ := hQ39
    have N39 := Fr.app N38 Nq39
    show Ga _ _ _ _ _ _ _ _ _ _ _ [(.int (own_e3 p1 p2 p3))]
    refine g_istore X39 hx (Ls' := #[.val (.int p0), .val (.int p1), .val (.int p2), .val (.int p3), .val (.int p4), .val (.int p5), .val (.int (3 : Int32)), .val (.ref b30), .val (.ref b31), .val (.ref b36), .val (.int (own_e3 p1 p2 p3))]) (hb hby at_96) rfl rfl ?_
    refine g_iload X39 hx (hb hby at_98) rfl rfl ?_
    refine g_iload X39 hx (hb hby at_100) rfl rfl ?_
    refine g_iloadN X39 hx (hb hby at_102) rfl rfl ?_
    refine g_iloadN X39 hx (hb hby at_103) rfl rfl ?_
    refine g_iloadN X39 hx (hb hby at_104) rfl rfl ?_
    refine g_iload X39 hx (hb hby at_105) rfl rfl ?_
    refine g_iload X39 hx (hb hby at_107) rfl rfl ?_
    refine g_static X39 hx hZ hown (hw _ (List.mem_of_getElem? (i := 22) rfl)) (hw _ (List.mem_of_getElem? (i := 23) rfl)) (hw _ (List.mem_of_getElem? (i := 24) rfl)) (hw _ (List.mem_of_getElem? (i := 25) rfl)) (by decide) (rm_ex3 l Z a0 hw p1 p2 p3 p4 p5 T38.heap n0 Z38) (by rw [hml]; rfl) eh39 [(.int (3 : Int32)), (.int p1), (.int p2), (.int p3), (.int p4), (.int p5)] rfl rfl (W := 1) (Nat.le_of_eq rfl) (by decide) (by decide) (by decide) (by decide) (lenOf pd_2 rfl) (hb hby at_109) rfl fun v41 T41 L41 X41 hQ41 => ?_
    obtain ⟨rfl, Nq41, eh41⟩ := hQ41
    have N41 := Fr.app N39 Nq41
    show Ga _ _ _ _ _ _ _ _ _ _ _ [(.int (own_e3 p1 p2 p3)), (.int (own_e3 p1 p2 p3))]
    refine g_icmpN X41 hx (hb hby at_112) rfl (XT.ii_ne_f rfl) ?_
    refine g_iconst X41 hx (r := (1 : Int32)) (hb hby at_115) rfl rfl ?_
    refine g_goto X41 hx (q := 120) (hb hby at_116) (by decide) (by decide) ?_
    exact g_retN X41 hx (t := .boolean) (r := (1 : Int32)) hret (by simp) hlk (hb hby at_120) rfl (by decide) (by decide) (by rw [eh41]; exact ⟨rfl, N41⟩)
  · skip
    refine g_iload X0 hx (hb hby at_9) rfl rfl ?_
    refine g_newarray X0 hx hZ (aty := .int) (hw _ (List.mem_of_getElem? (i := 1) rfl)) e0 (by decide) 4 (by decide) (by decide) (by decide) (by decide) (ad := "[I") (by decide) (hb hby at_11) rfl fun T42 h42 b42 ka42 X42 e42 q42 E42 A42 V42 => ?_
    have g_b42 : n0 ≤ b42 := Nat.le_trans Z0 (Nat.le_of_eq q42.symm)
    have Z42 : n0 ≤ h42.size := Nat.le_trans Z0 E42.1
    have Vn42 : Arv Z h42 b42 ka42 .int (4 : Int32) [(.int (0 : Int32)), (.int (0 : Int32)), (.int (0 : Int32)), (.int (0 : Int32))] (.int (0 : Int32)) := V42
    refine g_astore X42 hx (Ls' := #[.val (.int p0), .val (.int p1), .val (.int p2), .val (.int p3), .val (.int p4), .val (.int p5), .val (.int (4 : Int32)), .val (.ref b42), .unset, .unset, .unset]) (hb hby at_13) rfl rfl rfl ?_
    refine g_iload X42 hx (hb hby at_15) rfl rfl ?_
    refine g_anewarray X42 hx hZ hown (hw _ (List.mem_of_getElem? (i := 2) rfl)) (hw _ (List.mem_of_getElem? (i := 3) rfl)) e42 (by decide) 4 (by decide) (by decide) (by decide) (by decide) (ad := "[Ljava/lang/String;") (by decide) (hb hby at_17) rfl fun T43 h43 b43 ka43 X43 e43 q43 E43 A43 O43 V43 => ?_
    have ne_b42_b43 : b42 ≠ b43 := own_ne Vn42.lt q43
    have g_b43 : n0 ≤ b43 := Nat.le_trans Z42 (Nat.le_of_eq q43.symm)
    have Z43 : n0 ≤ h43.size := Nat.le_trans Z42 E43.1
    have Vn43 : Arv Z h43 b43 ka43 (.object "java/lang/String") (4 : Int32) [.null, .null, .null, .null] .null := V43
    refine g_astore X43 hx (Ls' := #[.val (.int p0), .val (.int p1), .val (.int p2), .val (.int p3), .val (.int p4), .val (.int p5), .val (.int (4 : Int32)), .val (.ref b42), .val (.ref b43), .unset, .unset]) (hb hby at_20) rfl rfl rfl ?_
    refine g_iload X43 hx (hb hby at_22) rfl rfl ?_
    refine g_ifN X43 hx (hb hby at_24) rfl (XT.i0_le_f (by decide : (0 : Int32) < (4 : Int32))) ?_
    refine g_aload X43 hx (hb hby at_27) rfl rfl rfl ?_
    refine g_iconst X43 hx (r := (0 : Int32)) (hb hby at_29) rfl rfl ?_
    refine g_iloadN X43 hx (hb hby at_30) rfl rfl ?_
    have f44 : Arv Z h43 b42 ka42 .int (4 : Int32) [(.int (0 : Int32)), (.int (0 : Int32)), (.int (0 : Int32)), (.int (0 : Int32))] (.int (0 : Int32)) := (Vn42.ext E43)
    refine g_iastore X43 hx hZ e43 f44 ⟨by decide, by decide⟩ (Nat.le_of_ble_eq_true rfl) (hb hby at_31) rfl fun T45 h45 X45 e45 W45 V45 => ?_
    have Vn45 : Arv Z h45 b42 ka42 .int (4 : Int32) [(.int p1), (.int (0 : Int32)), (.int (0 : Int32)), (.int (0 : Int32))] (.int (0 : Int32)) := V45
    have N45 := Fr.snoc X45 N0 g_b42
    have Z45 : n0 ≤ h45.size := by rw [W45.size]; exact Z43
    refine g_iload X45 hx (hb hby at_32) rfl rfl ?_
    refine g_iconst X45 hx (r := (1 : Int32)) (hb hby at_34) rfl rfl ?_
    refine g_icmpN X45 hx (hb hby at_35) rfl (XT.ii_le_f (by decide : (1 : Int32) < (4 : Int32))) ?_
    refine g_aload X45 hx (hb hby at_38) rfl rfl rfl ?_
    refine g_iconst X45 hx (r := (1 : Int32)) (hb hby at_40) rfl rfl ?_
    refine g_iloadN X45 hx (hb hby at_41) rfl rfl ?_
    refine g_iastore X45 hx hZ e45 Vn45 ⟨by decide, by decide⟩ (Nat.le_of_ble_eq_true rfl) (hb hby at_42) rfl fun T46 h46 X46 e46 W46 V46 => ?_
    have Vn46 : Arv Z h46 b42 ka42 .int (4 : Int32) [(.int p1), (.int p2), (.int (0 : Int32)), (.int (0 : Int32))] (.int (0 : Int32)) := V46
    have N46 := Fr.snoc X46 N45 g_b42
    have Z46 : n0 ≤ h46.size := by rw [W46.size]; exact Z45
    refine g_iload X46 hx (hb hby at_43) rfl rfl ?_
    refine g_iconst X46 hx (r := (2 : Int32)) (hb hby at_45) rfl rfl ?_
    refine g_icmpN X46 hx (hb hby at_46) rfl (XT.ii_le_f (by decide : (2 : Int32) < (4 : Int32))) ?_
    refine g_aload X46 hx (hb hby at_49) rfl rfl rfl ?_
    refine g_iconst X46 hx (r := (2 : Int32)) (hb hby at_51) rfl rfl ?_
    refine g_iloadN X46 hx (hb hby at_52) rfl rfl ?_
    refine g_iastore X46 hx hZ e46 Vn46 ⟨by decide, by decide⟩ (Nat.le_of_ble_eq_true rfl) (hb hby at_53) rfl fun T47 h47 X47 e47 W47 V47 => ?_
    have Vn47 : Arv Z h47 b42 ka42 .int (4 : Int32) [(.int p1), (.int p2), (.int p3), (.int (0 : Int32))] (.int (0 : Int32)) := V47
    have N47 := Fr.snoc X47 N46 g_b42
    have Z47 : n0 ≤ h47.size := by rw [W47.size]; exact Z46
    refine g_iload X47 hx (hb hby at_54) rfl rfl ?_
    refine g_iconst X47 hx (r := (3 : Int32)) (hb hby at_56) rfl rfl ?_
    refine g_icmpN X47 hx (hb hby at_57) rfl (XT.ii_le_f (by decide : (3 : Int32) < (4 : Int32))) ?_
    refine g_aload X47 hx (hb hby at_60) rfl rfl rfl ?_
    refine g_iconst X47 hx (r := (3 : Int32)) (hb hby at_62) rfl rfl ?_
    refine g_iload X47 hx (hb hby at_63) rfl rfl ?_
    refine g_iastore X47 hx hZ e47 Vn47 ⟨by decide, by decide⟩ (Nat.le_of_ble_eq_true rfl) (hb hby at_65) rfl fun T48 h48 X48 e48 W48 V48 => ?_
    have Vn48 : Arv Z h48 b42 ka42 .int (4 : Int32) [(.int p1), (.int p2), (.int p3), (.int p4)] (.int (0 : Int32)) := V48
    have N48 := Fr.snoc X48 N47 g_b42
    have Z48 : n0 ≤ h48.size := by rw [W48.size]; exact Z47
    refine g_iload X48 hx (hb hby at_66) rfl rfl ?_
    refine g_iconst X48 hx (r := (4 : Int32)) (hb hby at_68) rfl rfl ?_
    refine g_icmpY X48 hx (q := 78) (hb hby at_69) (XT.ii_le_t (by decide : ¬ (4 : Int32) < (4 : Int32))) (by decide) (by decide) ?_
    have f50 : Arv Z h48 b43 ka43 (.object "java/lang/String") (4 : Int32) [.null, .null, .null, .null] .null := ((((Vn43.other W45 (Ne.symm ne_b42_b43)).other W46 (Ne.symm ne_b42_b43)).other W47 (Ne.symm ne_b42_b43)).other W48 (Ne.symm ne_b42_b43))
    refine g_new X48 hx hZ hown (hw _ (List.mem_of_getElem? (i := 4) rfl)) (hw _ (List.mem_of_getElem? (i := 5) rfl)) (hw _ (List.mem_of_getElem? (i := 6) rfl)) e48 (hb hby at_78) rfl (by decide) (by decide) fun T49 h49 b49 X49 e49 q49 E49 A49 D49 => ?_
    have ne_b42_b49 : b42 ≠ b49 := own_ne Vn48.lt q49
    have ne_b43_b49 : b43 ≠ b49 := own_ne f50.lt q49
    have g_b49 : n0 ≤ b49 := Nat.le_trans Z48 (Nat.le_of_eq q49.symm)
    have Z49 : n0 ≤ h49.size := Nat.le_trans Z48 E49.1
    have F49_tags : Fld Z h49 b49 "com/example/crosstide/crosstide/fix/FixMessage" "tags" "[I" .null := D49 (Or.inr (hw _ (List.mem_of_getElem? (i := 14) rfl))) (ty := (.array .int)) (by decide)
    have F49_values : Fld Z h49 b49 "com/example/crosstide/crosstide/fix/FixMessage" "values" "[Ljava/lang/String;" .null := D49 (Or.inr (hw _ (List.mem_of_getElem? (i := 16) rfl))) (ty := (.array (.object "java/lang/String"))) (by decide)
    refine g_dup X49 hx (hb hby at_81) rfl rfl ?_
    refine g_aload X49 hx (hb hby at_82) rfl rfl rfl ?_
    refine g_aload X49 hx (hb hby at_84) rfl rfl rfl ?_
    refine g_special X49 hx hZ hown rfl (hw _ (List.mem_of_getElem? (i := 7) rfl)) (hw _ (List.mem_of_getElem? (i := 8) rfl)) (hw _ (List.mem_of_getElem? (i := 6) rfl)) (hw _ (List.mem_of_getElem? (i := 9) rfl)) (by decide) (a := b49) (rm_fini l Z a0 hw b49 b42 b43 h49 n0 Z49 F49_tags F49_values A49 g_b49) (by rw [hml]; rfl) e49 [(.ref b42), (.ref b43)] rfl rfl (W := 1) (Nat.le_of_eq rfl) (by decide) (by decide) (by decide) (by decide) (lenOf pd_0 rfl) (hb hby at_86) rfl fun v51 T51 L51 X51 hQ51 => ?_
    obtain ⟨rfl, Nq51, kc51, p51_0, p51_1, p51_2⟩ := hQ51
    have N51 := Fr.app N48 Nq51
    have Z51 : n0 ≤ T51.heap.size := Nat.le_trans Z49 kc51.1
    show Ga _ _ _ _ _ _ _ _ _ _ _ [(.ref b49)]
    refine g_astore X51 hx (Ls' := #[.val (.int p0), .val (.int p1), .val (.int p2), .val (.int p3), .val (.int p4), .val (.int p5), .val (.int (4 : Int32)), .val (.ref b42), .val (.ref b43), .val (.ref b49), .unset]) (hb hby at_89) rfl rfl rfl ?_
    refine g_aload X51 hx (hb hby at_91) rfl rfl rfl ?_
    have f53 : Arv Z T51.heap b42 ka42 .int (4 : Int32) [(.int p1), (.int p2), (.int p3), (.int p4)] (.int (0 : Int32)) := ((Vn48.ext E49).keep kc51 (ninS ne_b42_b49 nin0))
    refine g_virtual X51 hx hZ hown (hw _ (List.mem_of_getElem? (i := 17) rfl)) (hw _ (List.mem_of_getElem? (i := 18) rfl)) (notFace_of_selects (args := #[]) (mvT hZ (hw _ (List.mem_of_getElem? (i := 20) rfl)))) (hw _ (List.mem_of_getElem? (i := 20) rfl)) (hw _ (List.mem_of_getElem? (i := 19) rfl)) (hw _ (List.mem_of_getElem? (i := 6) rfl)) (hw _ (List.mem_of_getElem? (i := 21) rfl)) (by decide) (a := b49) p51_0 (rm_rt4 l Z a0 hw b49 b42 ka42 p1 p2 p3 p4 T51.heap n0 Z51 p51_1 f53) (by rw [hml]; rfl) rfl [] rfl rfl (W := 0) (Nat.le_of_eq rfl) (by decide) (by decide) (by decide) (by decide) (lenOf pd_1 rfl) (hb hby at_93) rfl fun v52 T52 L52 X52 hQ52 => ?_
    obtain ⟨rfl, Nq52, eh52⟩ := hQ52
    have N52 := Fr.app N51 Nq52
    show Ga _ _ _ _ _ _ _ _ _ _ _ [(.int (own_e4 p1 p2 p3 p4))]
    refine g_istore X52 hx (Ls' := #[.val (.int p0), .val (.int p1), .val (.int p2), .val (.int p3), .val (.int p4), .val (.int p5), .val (.int (4 : Int32)), .val (.ref b42), .val (.ref b43), .val (.ref b49), .val (.int (own_e4 p1 p2 p3 p4))]) (hb hby at_96) rfl rfl ?_
    refine g_iload X52 hx (hb hby at_98) rfl rfl ?_
    refine g_iload X52 hx (hb hby at_100) rfl rfl ?_
    refine g_iloadN X52 hx (hb hby at_102) rfl rfl ?_
    refine g_iloadN X52 hx (hb hby at_103) rfl rfl ?_
    refine g_iloadN X52 hx (hb hby at_104) rfl rfl ?_
    refine g_iload X52 hx (hb hby at_105) rfl rfl ?_
    refine g_iload X52 hx (hb hby at_107) rfl rfl ?_
    refine g_static X52 hx hZ hown (hw _ (List.mem_of_getElem? (i := 22) rfl)) (hw _ (List.mem_of_getElem? (i := 23) rfl)) (hw _ (List.mem_of_getElem? (i := 24) rfl)) (hw _ (List.mem_of_getElem? (i := 25) rfl)) (by decide) (rm_ex4 l Z a0 hw p1 p2 p3 p4 p5 T51.heap n0 Z51) (by rw [hml]; rfl) eh52 [(.int (4 : Int32)), (.int p1), (.int p2), (.int p3), (.int p4), (.int p5)] rfl rfl (W := 1) (Nat.le_of_eq rfl) (by decide) (by decide) (by decide) (by decide) (lenOf pd_2 rfl) (hb hby at_109) rfl fun v54 T54 L54 X54 hQ54 => ?_
    obtain ⟨rfl, Nq54, eh54⟩ := hQ54
    have N54 := Fr.app N52 Nq54
    show Ga _ _ _ _ _ _ _ _ _ _ _ [(.int (own_e4 p1 p2 p3 p4)), (.int (own_e4 p1 p2 p3 p4))]
    refine g_icmpN X54 hx (hb hby at_112) rfl (XT.ii_ne_f rfl) ?_
    refine g_iconst X54 hx (r := (1 : Int32)) (hb hby at_115) rfl rfl ?_
    refine g_goto X54 hx (q := 120) (hb hby at_116) (by decide) (by decide) ?_
    exact g_retN X54 hx (t := .boolean) (r := (1 : Int32)) hret (by simp) hlk (hb hby at_120) rfl (by decide) (by decide) (by rw [eh54]; exact ⟨rfl, N54⟩)
  · skip
    refine g_iload X0 hx (hb hby at_9) rfl rfl ?_
    refine g_newarray X0 hx hZ (aty := .int) (hw _ (List.mem_of_getElem? (i := 1) rfl)) e0 (by decide) 5 (by decide) (by decide) (by decide) (by decide) (ad := "[I") (by decide) (hb hby at_11) rfl fun T55 h55 b55 ka55 X55 e55 q55 E55 A55 V55 => ?_
    have g_b55 : n0 ≤ b55 := Nat.le_trans Z0 (Nat.le_of_eq q55.symm)
    have Z55 : n0 ≤ h55.size := Nat.le_trans Z0 E55.1
    have Vn55 : Arv Z h55 b55 ka55 .int (5 : Int32) [(.int (0 : Int32)), (.int (0 : Int32)), (.int (0 : Int32)), (.int (0 : Int32)), (.int (0 : Int32))] (.int (0 : Int32)) := V55
    refine g_astore X55 hx (Ls' := #[.val (.int p0), .val (.int p1), .val (.int p2), .val (.int p3), .val (.int p4), .val (.int p5), .val (.int (5 : Int32)), .val (.ref b55), .unset, .unset, .unset]) (hb hby at_13) rfl rfl rfl ?_
    refine g_iload X55 hx (hb hby at_15) rfl rfl ?_
    refine g_anewarray X55 hx hZ hown (hw _ (List.mem_of_getElem? (i := 2) rfl)) (hw _ (List.mem_of_getElem? (i := 3) rfl)) e55 (by decide) 5 (by decide) (by decide) (by decide) (by decide) (ad := "[Ljava/lang/String;") (by decide) (hb hby at_17) rfl fun T56 h56 b56 ka56 X56 e56 q56 E56 A56 O56 V56 => ?_
    have ne_b55_b56 : b55 ≠ b56 := own_ne Vn55.lt q56
    have g_b56 : n0 ≤ b56 := Nat.le_trans Z55 (Nat.le_of_eq q56.symm)
    have Z56 : n0 ≤ h56.size := Nat.le_trans Z55 E56.1
    have Vn56 : Arv Z h56 b56 ka56 (.object "java/lang/String") (5 : Int32) [.null, .null, .null, .null, .null] .null := V56
    refine g_astore X56 hx (Ls' := #[.val (.int p0), .val (.int p1), .val (.int p2), .val (.int p3), .val (.int p4), .val (.int p5), .val (.int (5 : Int32)), .val (.ref b55), .val (.ref b56), .unset, .unset]) (hb hby at_20) rfl rfl rfl ?_
    refine g_iload X56 hx (hb hby at_22) rfl rfl ?_
    refine g_ifN X56 hx (hb hby at_24) rfl (XT.i0_le_f (by decide : (0 : Int32) < (5 : Int32))) ?_
    refine g_aload X56 hx (hb hby at_27) rfl rfl rfl ?_
    refine g_iconst X56 hx (r := (0 : Int32)) (hb hby at_29) rfl rfl ?_
    refine g_iloadN X56 hx (hb hby at_30) rfl rfl ?_
    have f57 : Arv Z h56 b55 ka55 .int (5 : Int32) [(.int (0 : Int32)), (.int (0 : Int32)), (.int (0 : Int32)), (.int (0 : Int32)), (.int (0 : Int32))] (.int (0 : Int32)) := (Vn55.ext E56)
    refine g_iastore X56 hx hZ e56 f57 ⟨by decide, by decide⟩ (Nat.le_of_ble_eq_true rfl) (hb hby at_31) rfl fun T58 h58 X58 e58 W58 V58 => ?_
    have Vn58 : Arv Z h58 b55 ka55 .int (5 : Int32) [(.int p1), (.int (0 : Int32)), (.int (0 : Int32)), (.int (0 : Int32)), (.int (0 : Int32))] (.int (0 : Int32)) := V58
    have N58 := Fr.snoc X58 N0 g_b55
    have Z58 : n0 ≤ h58.size := by rw [W58.size]; exact Z56
    refine g_iload X58 hx (hb hby at_32) rfl rfl ?_
    refine g_iconst X58 hx (r := (1 : Int32)) (hb hby at_34) rfl rfl ?_
    refine g_icmpN X58 hx (hb hby at_35) rfl (XT.ii_le_f (by decide : (1 : Int32) < (5 : Int32))) ?_
    refine g_aload X58 hx (hb hby at_38) rfl rfl rfl ?_
    refine g_iconst X58 hx (r := (1 : Int32)) (hb hby at_40) rfl rfl ?_
    refine g_iloadN X58 hx (hb hby at_41) rfl rfl ?_
    refine g_iastore X58 hx hZ e58 Vn58 ⟨by decide, by decide⟩ (Nat.le_of_ble_eq_true rfl) (hb hby at_42) rfl fun T59 h59 X59 e59 W59 V59 => ?_
    have Vn59 : Arv Z h59 b55 ka55 .int (5 : Int32) [(.int p1), (.int p2), (.int (0 : Int32)), (.int (0 : Int32)), (.int (0 : Int32))] (.int (0 : Int32)) := V59
    have N59 := Fr.snoc X59 N58 g_b55
    have Z59 : n0 ≤ h59.size := by rw [W59.size]; exact Z58
    refine g_iload X59 hx (hb hby at_43) rfl rfl ?_
    refine g_iconst X59 hx (r := (2 : Int32)) (hb hby at_45) rfl rfl ?_
    refine g_icmpN X59 hx (hb hby at_46) rfl (XT.ii_le_f (by decide : (2 : Int32) < (5 : Int32))) ?_
    refine g_aload X59 hx (hb hby at_49) rfl rfl rfl ?_
    refine g_iconst X59 hx (r := (2 : Int32)) (hb hby at_51) rfl rfl ?_
    refine g_iloadN X59 hx (hb hby at_52) rfl rfl ?_
    refine g_iastore X59 hx hZ e59 Vn59 ⟨by decide, by decide⟩ (Nat.le_of_ble_eq_true rfl) (hb hby at_53) rfl fun T60 h60 X60 e60 W60 V60 => ?_
    have Vn60 : Arv Z h60 b55 ka55 .int (5 : Int32) [(.int p1), (.int p2), (.int p3), (.int (0 : Int32)), (.int (0 : Int32))] (.int (0 : Int32)) := V60
    have N60 := Fr.snoc X60 N59 g_b55
    have Z60 : n0 ≤ h60.size := by rw [W60.size]; exact Z59
    refine g_iload X60 hx (hb hby at_54) rfl rfl ?_
    refine g_iconst X60 hx (r := (3 : Int32)) (hb hby at_56) rfl rfl ?_
    refine g_icmpN X60 hx (hb hby at_57) rfl (XT.ii_le_f (by decide : (3 : Int32) < (5 : Int32))) ?_
    refine g_aload X60 hx (hb hby at_60) rfl rfl rfl ?_
    refine g_iconst X60 hx (r := (3 : Int32)) (hb hby at_62) rfl rfl ?_
    refine g_iload X60 hx (hb hby at_63) rfl rfl ?_
    refine g_iastore X60 hx hZ e60 Vn60 ⟨by decide, by decide⟩ (Nat.le_of_ble_eq_true rfl) (hb hby at_65) rfl fun T61 h61 X61 e61 W61 V61 => ?_
    have Vn61 : Arv Z h61 b55 ka55 .int (5 : Int32) [(.int p1), (.int p2), (.int p3), (.int p4), (.int (0 : Int32))] (.int (0 : Int32)) := V61
    have N61 := Fr.snoc X61 N60 g_b55
    have Z61 : n0 ≤ h61.size := by rw [W61.size]; exact Z60
    refine g_iload X61 hx (hb hby at_66) rfl rfl ?_
    refine g_iconst X61 hx (r := (4 : Int32)) (hb hby at_68) rfl rfl ?_
    refine g_icmpN X61 hx (hb hby at_69) rfl (XT.ii_le_f (by decide : (4 : Int32) < (5 : Int32))) ?_
    refine g_aload X61 hx (hb hby at_72) rfl rfl rfl ?_
    refine g_iconst X61 hx (r := (4 : Int32)) (hb hby at_74) rfl rfl ?_
    refine g_iload X61 hx (hb hby at_75) rfl rfl ?_
    refine g_iastore X61 hx hZ e61 Vn61 ⟨by decide, by decide⟩ (Nat.le_of_ble_eq_true rfl) (hb hby at_77) rfl fun T62 h62 X62 e62 W62 V62 => ?_
    have Vn62 : Arv Z h62 b55 ka55 .int (5 : Int32) [(.int p1), (.int p2), (.int p3), (.int p4), (.int p5)] (.int (0 : Int32)) := V62
    have N62 := Fr.snoc X62 N61 g_b55
    have Z62 : n0 ≤ h62.size := by rw [W62.size]; exact Z61
    have f64 : Arv Z h62 b56 ka56 (.object "java/lang/String") (5 : Int32) [.null, .null, .null, .null, .null] .null := (((((Vn56.other W58 (Ne.symm ne_b55_b56)).other W59 (Ne.symm ne_b55_b56)).other W60 (Ne.symm ne_b55_b56)).other W61 (Ne.symm ne_b55_b56)).other W62 (Ne.symm ne_b55_b56))
    refine g_new X62 hx hZ hown (hw _ (List.mem_of_getElem? (i := 4) rfl)) (hw _ (List.mem_of_getElem? (i := 5) rfl)) (hw _ (List.mem_of_getElem? (i := 6) rfl)) e62 (hb hby at_78) rfl (by decide) (by decide) fun T63 h63 b63 X63 e63 q63 E63 A63 D63 => ?_
    have ne_b55_b63 : b55 ≠ b63 := own_ne Vn62.lt q63
    have ne_b56_b63 : b56 ≠ b63 := own_ne f64.lt q63
    have g_b63 : n0 ≤ b63 := Nat.le_trans Z62 (Nat.le_of_eq q63.symm)
    have Z63 : n0 ≤ h63.size := Nat.le_trans Z62 E63.1
    have F63_tags : Fld Z h63 b63 "com/example/crosstide/crosstide/fix/FixMessage" "tags" "[I" .null := D63 (Or.inr (hw _ (List.mem_of_getElem? (i := 14) rfl))) (ty := (.array .int)) (by decide)
    have F63_values : Fld Z h63 b63 "com/example/crosstide/crosstide/fix/FixMessage" "values" "[Ljava/lang/String;" .null := D63 (Or.inr (hw _ (List.mem_of_getElem? (i := 16) rfl))) (ty := (.array (.object "java/lang/String"))) (by decide)
    refine g_dup X63 hx (hb hby at_81) rfl rfl ?_
    refine g_aload X63 hx (hb hby at_82) rfl rfl rfl ?_
    refine g_aload X63 hx (hb hby at_84) rfl rfl rfl ?_
    refine g_special X63 hx hZ hown rfl (hw _ (List.mem_of_getElem? (i := 7) rfl)) (hw _ (List.mem_of_getElem? (i := 8) rfl)) (hw _ (List.mem_of_getElem? (i := 6) rfl)) (hw _ (List.mem_of_getElem? (i := 9) rfl)) (by decide) (a := b63) (rm_fini l Z a0 hw b63 b55 b56 h63 n0 Z63 F63_tags F63_values A63 g_b63) (by rw [hml]; rfl) e63 [(.ref b55), (.ref b56)] rfl rfl (W := 1) (Nat.le_of_eq rfl) (by decide) (by decide) (by decide) (by decide) (lenOf pd_0 rfl) (hb hby at_86) rfl fun v65 T65 L65 X65 hQ65 => ?_
    obtain ⟨rfl, Nq65, kc65, p65_0, p65_1, p65_2⟩ := hQ65
    have N65 := Fr.app N62 Nq65
    have Z65 : n0 ≤ T65.heap.size := Nat.le_trans Z63 kc65.1
    show Ga _ _ _ _ _ _ _ _ _ _ _ [(.ref b63)]
    refine g_astore X65 hx (Ls' := #[.val (.int p0), .val (.int p1), .val (.int p2), .val (.int p3), .val (.int p4), .val (.int p5), .val (.int (5 : Int32)), .val (.ref b55), .val (.ref b56), .val (.ref b63), .unset]) (hb hby at_89) rfl rfl rfl ?_
    refine g_aload X65 hx (hb hby at_91) rfl rfl rfl ?_
    have f67 : Arv Z T65.heap b55 ka55 .int (5 : Int32) [(.int p1), (.int p2), (.int p3), (.int p4), (.int p5)] (.int (0 : Int32)) := ((Vn62.ext E63).keep kc65 (ninS ne_b55_b63 nin0))
    refine g_virtual X65 hx hZ hown (hw _ (List.mem_of_getElem? (i := 17) rfl)) (hw _ (List.mem_of_getElem? (i := 18) rfl)) (notFace_of_selects (args := #[]) (mvT hZ (hw _ (List.mem_of_getElem? (i := 20) rfl)))) (hw _ (List.mem_of_getElem? (i := 20) rfl)) (hw _ (List.mem_of_getElem? (i := 19) rfl)) (hw _ (List.mem_of_getElem? (i := 6) rfl)) (hw _ (List.mem_of_getElem? (i := 21) rfl)) (by decide) (a := b63) p65_0 (rm_rt5 l Z a0 hw b63 b55 ka55 p1 p2 p3 p4 p5 T65.heap n0 Z65 p65_1 f67) (by rw [hml]; rfl) rfl [] rfl rfl (W := 0) (Nat.le_of_eq rfl) (by decide) (by decide) (by decide) (by decide) (lenOf pd_1 rfl) (hb hby at_93) rfl fun v66 T66 L66 X66 hQ66 => ?_
    obtain ⟨rfl, Nq66, eh66⟩ := hQ66
    have N66 := Fr.app N65 Nq66
    show Ga _ _ _ _ _ _ _ _ _ _ _ [(.int (own_e5 p1 p2 p3 p4 p5))]
    refine g_istore X66 hx (Ls' := #[.val (.int p0), .val (.int p1), .val (.int p2), .val (.int p3), .val (.int p4), .val (.int p5), .val (.int (5 : Int32)), .val (.ref b55), .val (.ref b56), .val (.ref b63), .val (.int (own_e5 p1 p2 p3 p4 p5))]) (hb hby at_96) rfl rfl ?_
    refine g_iload X66 hx (hb hby at_98) rfl rfl ?_
    refine g_iload X66 hx (hb hby at_100) rfl rfl ?_
    refine g_iloadN X66 hx (hb hby at_102) rfl rfl ?_
    refine g_iloadN X66 hx (hb hby at_103) rfl rfl ?_
    refine g_iloadN X66 hx (hb hby at_104) rfl rfl ?_
    refine g_iload X66 hx (hb hby at_105) rfl rfl ?_
    refine g_iload X66 hx (hb hby at_107) rfl rfl ?_
    refine g_static X66 hx hZ hown (hw _ (List.mem_of_getElem? (i := 22) rfl)) (hw _ (List.mem_of_getElem? (i := 23) rfl)) (hw _ (List.mem_of_getElem? (i := 24) rfl)) (hw _ (List.mem_of_getElem? (i := 25) rfl)) (by decide) (rm_ex5 l Z a0 hw p1 p2 p3 p4 p5 T65.heap n0 Z65) (by rw [hml]; rfl) eh66 [(.int (5 : Int32)), (.int p1), (.int p2), (.int p3), (.int p4), (.int p5)] rfl rfl (W := 1) (Nat.le_of_eq rfl) (by decide) (by decide) (by decide) (by decide) (lenOf pd_2 rfl) (hb hby at_109) rfl fun v68 T68 L68 X68 hQ68 => ?_
    obtain ⟨rfl, Nq68, eh68⟩ := hQ68
    have N68 := Fr.app N66 Nq68
    show Ga _ _ _ _ _ _ _ _ _ _ _ [(.int (own_e5 p1 p2 p3 p4 p5)), (.int (own_e5 p1 p2 p3 p4 p5))]
    refine g_icmpN X68 hx (hb hby at_112) rfl (XT.ii_ne_f rfl) ?_
    refine g_iconst X68 hx (r := (1 : Int32)) (hb hby at_115) rfl rfl ?_
    refine g_goto X68 hx (q := 120) (hb hby at_116) (by decide) (by decide) ?_
    exact g_retN X68 hx (t := .boolean) (r := (1 : Int32)) hret (by simp) hlk (hb hby at_120) rfl (by decide) (by decide) (by rw [eh68]; exact ⟨rfl, N68⟩)
set_option maxRecDepth 65536 in
set_option maxHeartbeats 40000000 in
theorem comes_1 {Post : Tables → Env → Array Value → State → Outcome → State → Prop} (hpost : ∀ tb e args s v u, (limb_1_1.after args s (.returned v) u = true ∧ limb_1_2.after args s (.returned v) u = true ∧ True) → FrameEnd s (.returned v) u (Jvm.fieldLocs frame_1_writes args s ++ Jvm.arrayLocs frame_1_arrays args s ++ Jvm.staticLocs frame_1_statics s) 16 128 → Post tb e args s (.returned v) u) :
    ArmFor flags0 classFile x code maxLocals ret World_1 tables_1 room_1 Calls_1 rest_1 Pre_1 Post := by
  intro l hfl _ _ p e ha hc hk s m args below hf hA hF happ hP
  obtain ⟨hcalls, hrest, hpre⟩ := hP
  obtain ⟨-, -, -, hnamed, -, -, -, hat⟩ := (Spec.applies_iff hf).mp happ
  obtain ⟨hg, hn⟩ := and_e (Cond.before_iff.mp (show (Jvm.Cond.and given_1 narrow_1).before args s = true from hpre))
  obtain ⟨hcn, hg1⟩ := and_e hg
  obtain ⟨k1, hg2⟩ := and_e hg1
  obtain ⟨k2, hg3⟩ := and_e hg2
  obtain ⟨k3, hg4⟩ := and_e hg3
  obtain ⟨k4, hg5⟩ := and_e hg4
  obtain ⟨k5, hg6⟩ := and_e hg5
  have k6 := hg6
  obtain ⟨w0, w1, w2, w3, w4, w5, rfl⟩ : ∃ w0 w1 w2 w3 w4 w5 : Value, args = #[w0, w1, w2, w3, w4, w5] := by
    have hs : args.size = 6 := by simpa [Cond.value, given_1] using hcn
    obtain ⟨L⟩ := args
    match L, hs with
    | [w0, w1, w2, w3, w4, w5], _ => exact ⟨w0, w1, w2, w3, w4, w5, rfl⟩
  have hw := fun d (hd : d ∈ tables_1) => atoms_spec (ws := Jvm.Cond.code x code maxLocals ret :: tables_1) hat d (List.mem_cons_of_mem _ hd)
  have hfit : Fit s := fun {y c} hc i hi => by
    obtain ⟨ha, rfl⟩ := Array.getElem?_eq_some_iff.mp hc
    have q := List.all_eq_true.mp ((Array.all_eq_true_iff_forall_mem.mp hF) _ (Array.getElem_mem ha)) i (List.mem_range.mpr hi)
    simpa [Array.getElem?_eq_getElem hi] using q
  obtain ⟨i0, ei0⟩ := is_v k1
  obtain rfl : w0 = (.int i0) := Option.some.inj ei0
  obtain ⟨i1, ei1⟩ := is_v k2
  obtain rfl : w1 = (.int i1) := Option.some.inj ei1
  obtain ⟨i2, ei2⟩ := is_v k3
  obtain rfl : w2 = (.int i2) := Option.some.inj ei2
  obtain ⟨i3, ei3⟩ := is_v k4
  obtain rfl : w3 = (.int i3) := Option.some.inj ei3
  obtain ⟨i4, ei4⟩ := is_v k5
  obtain rfl : w4 = (.int i4) := Option.some.inj ei4
  obtain ⟨i5, ei5⟩ := is_v k6
  obtain rfl : w5 = (.int i5) := Option.some.inj ei5
  obtain ⟨n, o, h1, h2, h3, _, L, rfl, ⟨rfl, N⟩, hq⟩ := rm_law l s _ hw tables_1 i0 i1 i2 i3 i4 i5 s.heap s.heap.size (Nat.le_refl _) p e ha hc hk s m _ below hf ((Spec.applies_iff_loose hf).mp happ).1 ⟨rfl, State.Warmed39.refl s, rfl⟩ trivial
  refine ⟨n, _, h1, h2, h3, hpost _ _ _ _ _ _ ⟨Cond.after_iff.mpr rfl, Cond.after_iff.mpr (eq_i res_at (Term.int_eval (1)) rfl), trivial⟩ ⟨hq.1, hq.2.1, (hq.2.2.sift fun y hy => Or.inr (N y hy)).mono (by decide) (by decide)⟩⟩
theorem main_1_1 : Claimed_1_1 := comes_1 fun _ _ _ _ _ _ h hF => ⟨h.1, hF⟩
theorem main_1_2 : Claimed_1_2 := comes_1 fun _ _ _ _ _ _ h hF => ⟨h.2.1, hF⟩
end Jvm.Pilot.@@N@@
namespace Jvm.Pilot.@@N@@
open Jvm Jvm.ClassFile Sem Op Lib Jvm.Free Jvm.Stand Jvm.Pilot.@@N@@.Jvm.D
/-! MADE BY PROGRAM (witnessworld.py) out of the Statement's table words and the real class files: 15 classes; the members and pool entries that the words name. The judged class is class 1, her method 2. -/
namespace start1
open Jvm.ClassFile
def u (s : String) : CpInfo := .utf8 (stringToUtf16 s)
/-- a pool by its gaps: so many unusable entries, then the entry; so many at the end -/
def gap : Nat → List CpInfo → List CpInfo
  | 0, r => r
  | n + 1, r => .unusable :: gap n r
def poolList (es : List (Nat × CpInfo)) (last : Nat) : List CpInfo := es.foldr (fun e r => gap e.1 (e.2 :: r)) (gap last [])
def pool (es : List (Nat × CpInfo)) (last : Nat) : Array CpInfo := ⟨poolList es last⟩
def fileOf (pool : Array CpInfo) (this : Nat) (attrs : Array Attribute := #[]) (ms : Array MethodInfo := #[]) (fl : Nat := 33) (sup : Nat := 0) (ifs : Array Nat := #[]) (fds : Array FieldInfo := #[]) : ClassFile where
  minorVersion := 0
  majorVersion := 65
  constantPool := pool
  accessFlags := fl
  thisClass := this
  superClass := sup
  interfaces := ifs
  fields := fds
  methods := ms
  attributes := attrs
def plain (name : String) (sup : Option ClassId) : Class where
  name := name
  kind := .ordinary
  loader := none
  accessFlags := 33
  super := sup
  interfaces := #[]
  cf := none
  fields := #[]
  methods := #[]
  instanceTypes := #[]
  staticTypes := #[]
  resolved := #[]
  callSites := []
  init := .initialized
  statics := none
  mirror := none

def pool0 : Array CpInfo := pool [(5, u "<init>"), (0, u "()V"), (1, .class_ 10), (1, u "java/lang/Object")] 113

def k0c0 : Code := { maxStack := 0, maxLocals := 1, code := object_method_1_code, exceptionTable := #[], attributes := #[] }
def k0m0 : Method := { name := "<init>", desc := "()V", sig := { parameters := [], returnType := none }, accessFlags := 1, code := some k0c0 }
/-- java/lang/Object -/
def k0 : Class := { plain "java/lang/Object" none with
  accessFlags := 33
  interfaces := #[]
  cf := some (fileOf pool0 8 #[] #[{ accessFlags := 1, nameIndex := 5, descriptorIndex := 6, attributes := #[] }] 33 0 #[] #[])
  fields := #[]
  methods := #[k0m0]
  instanceTypes := #[]
  staticTypes := #[]
  resolved := Array.replicate 124 none
  statics := none }

def pool1 : Array CpInfo := pool [(2, .class_ 4), (1, u "java/lang/Object"), (0, u "<init>"), (0, u "()V"), (0, .integer 2147483647), (0, .class_ 9), (0, u "java/lang/String"), (0, .class_ 11), (0, u "com/example/crosstide/crosstide/fix/FixMessage"), (0, .methodref 10 13), (0, .nameAndType 5 14), (0, u "([I[Ljava/lang/String;)V"), (0, .methodref 10 16), (0, .nameAndType 17 18), (0, u "repeatedTag"), (0, u "()I"), (0, .methodref 20 21), (0, .class_ 22), (0, .nameAndType 23 24), (0, u "com/example/crosstide/crosstide/fix/FixMessageRepeatedTagPinLaw"), (0, u "expected"), (0, u "(IIIIII)I"), (3, u "law"), (0, u "(IIIIII)Z")] 6

def k1m0 : Method := { name := "<init>", desc := "()V", sig := { parameters := [], returnType := none }, accessFlags := 1, code := none }
def k1c1 : Code := { maxStack := 2, maxLocals := 6, code := method_2_code, exceptionTable := #[], attributes := #[] }
def k1m1 : Method := { name := "expected", desc := "(IIIIII)I", sig := { parameters := [.int, .int, .int, .int, .int, .int], returnType := some .int }, accessFlags := 10, code := some k1c1 }
def k1c2 : Code := { maxStack := 7, maxLocals := 11, code := code, exceptionTable := #[], attributes := #[] }
def k1m2 : Method := { name := "law", desc := "(IIIIII)Z", sig := { parameters := [.int, .int, .int, .int, .int, .int], returnType := some .boolean }, accessFlags := 9, code := some k1c2 }
/-- com/example/crosstide/crosstide/fix/FixMessageRepeatedTagPinLaw -/
def k1 : Class := { plain "com/example/crosstide/crosstide/fix/FixMessageRepeatedTagPinLaw" (some 0) with
  accessFlags := 49
  interfaces := #[]
  cf := some (fileOf pool1 20 #[] #[{ accessFlags := 1, nameIndex := 5, descriptorIndex := 6, attributes := #[] }, { accessFlags := 10, nameIndex := 23, descriptorIndex := 24, attributes := #[] }, { accessFlags := 9, nameIndex := 28, descriptorIndex := 29, attributes := #[] }] 49 2 #[] #[])
  fields := #[]
  methods := #[k1m0, k1m1, k1m2]
  instanceTypes := #[]
  staticTypes := #[]
  resolved := Array.replicate 36 none
  statics := none }

def pool2 : Array CpInfo := pool [(1, .class_ 2), (0, u "java/io/Serializable"), (0, .class_ 4), (0, u "java/lang/Object")] 2

/-- java/io/Serializable -/
def k2 : Class := { plain "java/io/Serializable" (some 0) with
  accessFlags := 1537
  interfaces := #[]
  cf := some (fileOf pool2 1 #[] #[] 1537 3 #[] #[])
  fields := #[]
  methods := #[]
  instanceTypes := #[]
  staticTypes := #[]
  resolved := Array.replicate 7 none
  statics := none }

def pool3 : Array CpInfo := pool [(1, .class_ 2), (0, u "java/lang/Comparable"), (0, .class_ 4), (0, u "java/lang/Object")] 7

/-- java/lang/Comparable -/
def k3 : Class := { plain "java/lang/Comparable" (some 0) with
  accessFlags := 1537
  interfaces := #[]
  cf := some (fileOf pool3 1 #[] #[] 1537 3 #[] #[])
  fields := #[]
  methods := #[]
  instanceTypes := #[]
  staticTypes := #[]
  resolved := Array.replicate 12 none
  statics := none }

def pool4 : Array CpInfo := pool [(2, .class_ 4), (1, u "java/lang/CharSequence"), (42, .class_ 48), (0, u "java/lang/CharSequence$1CodePointIterator"), (10, .class_ 60), (0, u "java/lang/CharSequence$1CharIterator"), (5, .class_ 67), (0, u "java/lang/Object")] 63

/-- java/lang/CharSequence -/
def k4 : Class := { plain "java/lang/CharSequence" (some 0) with
  accessFlags := 1537
  interfaces := #[]
  cf := some (fileOf pool4 2 #[.nestMembers #[47, 59]] #[] 1537 66 #[] #[])
  fields := #[]
  methods := #[]
  instanceTypes := #[]
  staticTypes := #[]
  resolved := Array.replicate 131 none
  statics := none }

def pool5 : Array CpInfo := pool [(1, .class_ 2), (0, u "java/lang/constant/Constable"), (0, .class_ 4), (0, u "java/lang/Object")] 6

/-- java/lang/constant/Constable -/
def k5 : Class := { plain "java/lang/constant/Constable" (some 0) with
  accessFlags := 1537
  interfaces := #[]
  cf := some (fileOf pool5 1 #[] #[] 1537 3 #[] #[])
  fields := #[]
  methods := #[]
  instanceTypes := #[]
  staticTypes := #[]
  resolved := Array.replicate 11 none
  statics := none }

def pool6 : Array CpInfo := pool [(1, .class_ 2), (0, u "java/lang/constant/ConstantDesc"), (0, .class_ 4), (0, u "java/lang/Object")] 32

/-- java/lang/constant/ConstantDesc -/
def k6 : Class := { plain "java/lang/constant/ConstantDesc" (some 0) with
  accessFlags := 1537
  interfaces := #[]
  cf := some (fileOf pool6 1 #[] #[] 1537 3 #[] #[])
  fields := #[]
  methods := #[]
  instanceTypes := #[]
  staticTypes := #[]
  resolved := Array.replicate 37 none
  statics := none }

def pool7 : Array CpInfo := pool [(2, .class_ 4), (1, u "java/lang/Object"), (0, u "<init>"), (0, u "()V"), (3, .class_ 12), (1, u "java/lang/String"), (0, u "value"), (0, u "[B"), (2, u "coder"), (0, u "B"), (2, u "hash"), (0, u "I"), (2, u "hashIsZero"), (0, u "Z"), (13, u "COMPACT_STRINGS"), (534, .class_ 576), (0, u "java/lang/CharSequence"), (22, u "CASE_INSENSITIVE_ORDER"), (0, u "Ljava/util/Comparator;"), (500, u "serialPersistentFields"), (0, u "[Ljava/io/ObjectStreamField;"), (0, .class_ 1104), (0, u "java/lang/String$CaseInsensitiveComparator"), (1, .class_ 1107), (0, u "java/io/Serializable"), (0, .class_ 1109), (0, u "java/lang/Comparable"), (0, .class_ 1111), (0, u "java/lang/constant/Constable"), (0, .class_ 1113), (0, u "java/lang/constant/ConstantDesc"), (2, u "serialVersionUID"), (0, u "J"), (3, u "REPL"), (0, u "C"), (2, u "LATIN1"), (1, u "UTF16")] 323

def k7m0 : Method := { name := "<init>", desc := "()V", sig := { parameters := [], returnType := none }, accessFlags := 1, code := none }
/-- java/lang/String -/
def k7 : Class := { plain "java/lang/String" (some 0) with
  accessFlags := 49
  interfaces := #[2, 3, 4, 5, 6]
  cf := some (fileOf pool7 10 #[.nestMembers #[1103]] #[{ accessFlags := 1, nameIndex := 5, descriptorIndex := 6, attributes := #[] }] 49 2 #[1106, 1108, 575, 1110, 1112] #[{ accessFlags := 18, nameIndex := 13, descriptorIndex := 14, attributes := #[] }, { accessFlags := 18, nameIndex := 17, descriptorIndex := 18, attributes := #[] }, { accessFlags := 2, nameIndex := 21, descriptorIndex := 22, attributes := #[] }, { accessFlags := 2, nameIndex := 25, descriptorIndex := 26, attributes := #[] }, { accessFlags := 26, nameIndex := 1116, descriptorIndex := 1117, attributes := #[] }, { accessFlags := 24, nameIndex := 40, descriptorIndex := 26, attributes := #[] }, { accessFlags := 26, nameIndex := 1101, descriptorIndex := 1102, attributes := #[] }, { accessFlags := 26, nameIndex := 1121, descriptorIndex := 1122, attributes := #[] }, { accessFlags := 25, nameIndex := 599, descriptorIndex := 600, attributes := #[] }, { accessFlags := 24, nameIndex := 1125, descriptorIndex := 18, attributes := #[] }, { accessFlags := 24, nameIndex := 1127, descriptorIndex := 18, attributes := #[] }])
  fields := #[{ name := "value", type := (.array .byte), accessFlags := 18, slot := 0, constantValue := 0 }, { name := "coder", type := .byte, accessFlags := 18, slot := 1, constantValue := 0 }, { name := "hash", type := .int, accessFlags := 2, slot := 2, constantValue := 0 }, { name := "hashIsZero", type := .boolean, accessFlags := 2, slot := 3, constantValue := 0 }, { name := "serialVersionUID", type := .long, accessFlags := 26, slot := 0, constantValue := 0 }, { name := "COMPACT_STRINGS", type := .boolean, accessFlags := 24, slot := 1, constantValue := 0 }, { name := "serialPersistentFields", type := (.array (.object "java/io/ObjectStreamField")), accessFlags := 26, slot := 2, constantValue := 0 }, { name := "REPL", type := .char, accessFlags := 26, slot := 3, constantValue := 0 }, { name := "CASE_INSENSITIVE_ORDER", type := (.object "java/util/Comparator"), accessFlags := 25, slot := 4, constantValue := 0 }, { name := "LATIN1", type := .byte, accessFlags := 24, slot := 5, constantValue := 0 }, { name := "UTF16", type := .byte, accessFlags := 24, slot := 6, constantValue := 0 }]
  methods := #[k7m0]
  instanceTypes := #[(.array .byte), .byte, .int, .boolean]
  staticTypes := #[.long, .boolean, (.array (.object "java/io/ObjectStreamField")), .char, (.object "java/util/Comparator"), .byte, .byte]
  resolved := Array.replicate 1451 none
  statics := none }

def pool8 : Array CpInfo := pool [(1, .methodref 2 3), (0, .class_ 4), (0, .nameAndType 5 6), (0, u "java/lang/Object"), (0, u "<init>"), (0, u "()V"), (0, .fieldref 8 9), (0, .class_ 10), (0, .nameAndType 11 12), (0, u "com/example/crosstide/crosstide/fix/FixMessage"), (0, u "tags"), (0, u "[I"), (0, .fieldref 8 14), (0, .nameAndType 15 16), (0, u "values"), (0, u "[Ljava/lang/String;"), (27, u "()I"), (8, u "BEGIN_STRING"), (0, u "Ljava/lang/String;"), (3, u "MAX_DIGITS"), (0, u "I"), (1, u "([I[Ljava/lang/String;)V"), (12, u "repeatedTag")] 2

def k8c0 : Code := { maxStack := 2, maxLocals := 3, code := prog_57_method_1_code, exceptionTable := #[], attributes := #[] }
def k8m0 : Method := { name := "<init>", desc := "([I[Ljava/lang/String;)V", sig := { parameters := [(.array .int), (.array (.object "java/lang/String"))], returnType := none }, accessFlags := 0, code := some k8c0 }
def k8c1 : Code := { maxStack := 3, maxLocals := 3, code := prog_57_method_8_code, exceptionTable := #[], attributes := #[] }
def k8m1 : Method := { name := "repeatedTag", desc := "()I", sig := { parameters := [], returnType := some .int }, accessFlags := 0, code := some k8c1 }
/-- com/example/crosstide/crosstide/fix/FixMessage -/
def k8 : Class := { plain "com/example/crosstide/crosstide/fix/FixMessage" (some 0) with
  accessFlags := 48
  interfaces := #[]
  cf := some (fileOf pool8 8 #[] #[{ accessFlags := 0, nameIndex := 5, descriptorIndex := 61, attributes := #[] }, { accessFlags := 0, nameIndex := 74, descriptorIndex := 44, attributes := #[] }] 48 2 #[] #[{ accessFlags := 24, nameIndex := 53, descriptorIndex := 54, attributes := #[] }, { accessFlags := 26, nameIndex := 58, descriptorIndex := 59, attributes := #[] }, { accessFlags := 18, nameIndex := 11, descriptorIndex := 12, attributes := #[] }, { accessFlags := 18, nameIndex := 15, descriptorIndex := 16, attributes := #[] }])
  fields := #[{ name := "BEGIN_STRING", type := (.object "java/lang/String"), accessFlags := 24, slot := 0, constantValue := 0 }, { name := "MAX_DIGITS", type := .int, accessFlags := 26, slot := 1, constantValue := 0 }, { name := "tags", type := (.array .int), accessFlags := 18, slot := 0, constantValue := 0 }, { name := "values", type := (.array (.object "java/lang/String")), accessFlags := 18, slot := 1, constantValue := 0 }]
  methods := #[k8m0, k8m1]
  instanceTypes := #[(.array .int), (.array (.object "java/lang/String"))]
  staticTypes := #[(.object "java/lang/String"), .int]
  resolved := Array.replicate 77 none
  statics := none }

def pool9 : Array CpInfo := pool [(1, u "java/lang/Cloneable"), (0, .class_ 1), (0, u "java/lang/Object"), (0, .class_ 3)] 3

/-- java/lang/Cloneable -/
def k9 : Class := { plain "java/lang/Cloneable" (some 0) with
  accessFlags := 1537
  interfaces := #[]
  cf := some (fileOf pool9 2 #[] #[] 1537 4 #[] #[])
  fields := #[]
  methods := #[]
  instanceTypes := #[]
  staticTypes := #[]
  resolved := Array.replicate 8 none
  statics := none }

/-- the primitive byte -/
def k10 : Class := { plain "byte" none with kind := .primitive 'B', accessFlags := 0x411 }
/-- [B -/
def k11 : Class := { plain "[B" (some 0) with kind := .array 10 .byte, interfaces := #[9, 2], accessFlags := 1041 }

/-- the primitive int -/
def k12 : Class := { plain "int" none with kind := .primitive 'I', accessFlags := 0x411 }
/-- [I -/
def k13 : Class := { plain "[I" (some 0) with kind := .array 12 .int, interfaces := #[9, 2], accessFlags := 1041 }

/-- [Ljava/lang/String; -/
def k14 : Class := { plain "[Ljava/lang/String;" (some 0) with kind := .array 7 (.object "java/lang/String"), interfaces := #[9, 2], accessFlags := 1041 }

def heap : Heap := #[]
def classes : Array Class := #[k0, k1, k2, k3, k4, k5, k6, k7, k8, k9, k10, k11, k12, k13, k14]
def interned : List (Array UInt16 × Addr) := []
def slotsUsed : Nat := 0
def theMethod : MethodId := ⟨1, 2⟩
def args0 : Array Value := #[.int 5, .int 300, .int 7, .int 10, .int 3, .int 300]
def aboutOver (below : List Frame) : State where
  vm := { classes := classes, interned := interned.toArray }
  heap := heap
  slotsUsed := slotsUsed
  threads := #[{ frames := .invoking theMethod args0 :: below }]
def below0 : List Frame := [.native { method := ⟨0, 0⟩, args := #[] }]
def about1 : State := aboutOver below0
def p0 : Program := .bare "" "" ""
def e0 : Env := launch0.env 0 0 0
theorem w_frames : about1.frames = Frame.invoking theMethod args0 :: below0 := rfl
set_option maxRecDepth 65536 in
theorem w_args : argsFit about1.vm theMethod args0 = true := by decide +kernel
set_option maxRecDepth 65536 in
theorem w_heap : heapFits about1 = true := by decide +kernel
set_option maxRecDepth 65536 in
theorem w_runnable : about1.curStatus? = some .runnable := by decide +kernel
set_option maxRecDepth 65536 in
theorem w_alone : about1.alone = true := by decide +kernel
set_option maxRecDepth 65536 in
theorem w_named : about1.methodNamed? x = some theMethod := by decide +kernel
set_option maxRecDepth 65536 in
theorem w_hears : about1.hears theMethod below0 = true := by decide +kernel
set_option maxRecDepth 65536 in
theorem w_ripe : about1.ripe theMethod args0 below0 = true := by decide +kernel
theorem w_running : about1.status = .running := rfl
set_option maxRecDepth 65536 in
theorem w_room : about1.hasRoom e0.platform room_1 = true :=
  launch0.hasRoom_least _ room_1 (by decide +kernel) (by decide +kernel) (by decide +kernel) (by decide +kernel) (by decide +kernel) (by decide +kernel)
theorem allAtoms_all (ts : List Jvm.Cond) (a : Array Jvm.Value) (st : Jvm.State) : (allAtoms ts).before a st = ts.all (fun c => c.before a st) := by
  induction ts with
  | nil => rfl
  | cons c t ih =>
    show (Jvm.Cond.and c (allAtoms t)).before a st = _
    rw [Jvm.Cond.before_and, ih, List.all_cons]
def words1 : List Jvm.Cond := Jvm.Cond.code x code maxLocals ret :: tables_1
/-- a 'code' word, met by the world's own term for the bytes: nothing is compared byte by byte -/
theorem code_word {y : MethodName} {bytes : ByteArray} {mx : Nat} {rt : Option FieldType} {a : Array Value} {s : State} {m : MethodId} {meth : Method} {c : Code} (h1 : s.methodNamed? y = some m) (h2 : s.vm.method? m = some meth) (h3 : meth.code = some c) (h4 : c.code = bytes)
    (h5 : (c.maxLocals == mx && c.exceptionTable.isEmpty && decide (c.maxStack ≤ mostOperands) && decide (meth.sig.returnType = rt) && !meth.locks && decide (parseMethodDescriptor y.desc = some meth.sig)) = true) : (Jvm.Cond.code y bytes mx rt).before a s = true := by
  simp only [Bool.and_eq_true, beq_iff_eq, Bool.not_eq_true', decide_eq_true_eq] at h5
  obtain ⟨⟨⟨⟨⟨g1, g2⟩, g3⟩, g4⟩, g5⟩, g6⟩ := h5
  simp [Cond.before, Cond.holds, Cond.value, h1, h2, h3, h4, g1, g2, g3, g4, g5, g6]
def isCode : Jvm.Cond → Bool
  | .code _ _ _ _ => true
  | _ => false
theorem all_split {L : List Jvm.Cond} {P : Jvm.Cond → Bool} (h1 : L.all (fun c => isCode c || P c) = true) (h2 : ∀ c ∈ L.filter isCode, P c = true) : L.all P = true := by
  refine List.all_eq_true.mpr fun c hc => ?_
  have h := List.all_eq_true.mp h1 c hc
  rcases Bool.eq_false_or_eq_true (isCode c) with hi | hi
  · exact h2 c (List.mem_filter.mpr ⟨hc, hi⟩)
  · simpa [hi] using h
set_option maxRecDepth 65536 in
theorem w_c0 : (Jvm.Cond.code x code maxLocals ret).before args0 about1 = true := code_word (m := ⟨1, 2⟩) (meth := k1m2) (c := k1c2) (by decide +kernel) rfl rfl rfl (by decide +kernel)
set_option maxRecDepth 65536 in
theorem w_c1 : (Jvm.Cond.code ({ cls := "com/example/crosstide/crosstide/fix/FixMessage", name := "<init>", desc := "([I[Ljava/lang/String;)V" } : Jvm.MethodName) prog_57_method_1_code (3 : Nat) (Option.none : Option Jvm.ClassFile.FieldType)).before args0 about1 = true := code_word (m := ⟨8, 0⟩) (meth := k8m0) (c := k8c0) (by decide +kernel) rfl rfl rfl (by decide +kernel)
set_option maxRecDepth 65536 in
theorem w_c2 : (Jvm.Cond.code ({ cls := "java/lang/Object", name := "<init>", desc := "()V" } : Jvm.MethodName) object_method_1_code (1 : Nat) (Option.none : Option Jvm.ClassFile.FieldType)).before args0 about1 = true := code_word (m := ⟨0, 0⟩) (meth := k0m0) (c := k0c0) (by decide +kernel) rfl rfl rfl (by decide +kernel)
set_option maxRecDepth 65536 in
theorem w_c3 : (Jvm.Cond.code ({ cls := "com/example/crosstide/crosstide/fix/FixMessage", name := "repeatedTag", desc := "()I" } : Jvm.MethodName) prog_57_method_8_code (3 : Nat) (Option.some Jvm.ClassFile.FieldType.int)).before args0 about1 = true := code_word (m := ⟨8, 1⟩) (meth := k8m1) (c := k8c1) (by decide +kernel) rfl rfl rfl (by decide +kernel)
set_option maxRecDepth 65536 in
theorem w_c4 : (Jvm.Cond.code ({ cls := "com/example/crosstide/crosstide/fix/FixMessageRepeatedTagPinLaw", name := "expected", desc := "(IIIIII)I" } : Jvm.MethodName) method_2_code (6 : Nat) (Option.some Jvm.ClassFile.FieldType.int)).before args0 about1 = true := code_word (m := ⟨1, 1⟩) (meth := k1m1) (c := k1c1) (by decide +kernel) rfl rfl rfl (by decide +kernel)
def codes1 : List Jvm.Cond := [Jvm.Cond.code x code maxLocals ret, Jvm.Cond.code ({ cls := "com/example/crosstide/crosstide/fix/FixMessage", name := "<init>", desc := "([I[Ljava/lang/String;)V" } : Jvm.MethodName) prog_57_method_1_code (3 : Nat) (Option.none : Option Jvm.ClassFile.FieldType), Jvm.Cond.code ({ cls := "java/lang/Object", name := "<init>", desc := "()V" } : Jvm.MethodName) object_method_1_code (1 : Nat) (Option.none : Option Jvm.ClassFile.FieldType), Jvm.Cond.code ({ cls := "com/example/crosstide/crosstide/fix/FixMessage", name := "repeatedTag", desc := "()I" } : Jvm.MethodName) prog_57_method_8_code (3 : Nat) (Option.some Jvm.ClassFile.FieldType.int), Jvm.Cond.code ({ cls := "com/example/crosstide/crosstide/fix/FixMessageRepeatedTagPinLaw", name := "expected", desc := "(IIIIII)I" } : Jvm.MethodName) method_2_code (6 : Nat) (Option.some Jvm.ClassFile.FieldType.int)]
set_option maxRecDepth 65536 in
theorem codes_eq : words1.filter isCode = codes1 := rfl
theorem w_codes : ∀ c ∈ words1.filter isCode, c.before args0 about1 = true := by
  rw [codes_eq]
  intro c hc
  simp only [codes1, List.mem_cons, List.not_mem_nil, or_false] at hc
  rcases hc with rfl | rfl | rfl | rfl | rfl
  · exact w_c0
  · exact w_c1
  · exact w_c2
  · exact w_c3
  · exact w_c4
set_option maxRecDepth 65536 in
theorem w_t1 : (words1.take 24).all (fun c => isCode c || c.before args0 about1) = true := by decide +kernel
set_option maxRecDepth 65536 in
theorem w_t2 : (words1.drop 24).all (fun c => isCode c || c.before args0 about1) = true := by decide +kernel
theorem w_tables : (allAtoms (Jvm.Cond.code x code maxLocals ret :: tables_1)).before args0 about1 = true := by
  rw [allAtoms_all]
  show words1.all (fun c => c.before args0 about1) = true
  refine all_split ?_ w_codes
  rw [← List.take_append_drop 24 words1, List.all_append, w_t1, w_t2]
  rfl
set_option maxRecDepth 65536 in
theorem w_case : (Jvm.Cond.and given_1 narrow_1).before args0 about1 = true := by decide +kernel
theorem w_applies : (headSpec (Jvm.Cond.code x code maxLocals ret :: tables_1) room_1).applies x e0.platform about1 = true :=
  (Spec.applies_iff w_frames).mpr ⟨w_running, w_runnable, w_alone, w_named, w_hears, w_ripe, w_room, w_tables⟩
theorem atStart : AtStart classFile x code maxLocals ret World_1 tables_1 room_1 Calls_1 rest_1 Pre_1 launch0 p0 e0 about1 theMethod args0 below0 :=
  ⟨lists_1, trivial, launch0.admits_env _ _ _, launch0.least_env, fairChoices_fair.cas, fairChoices_fair.clock, w_frames, w_args, w_heap, w_applies, trivial, trivial, w_case⟩
end start1
theorem witness_1 : WitnessClaimed_1 := ⟨start1.p0, start1.e0, start1.about1, start1.theMethod, start1.args0, start1.below0, start1.atStart⟩
end Jvm.Pilot.@@N@@

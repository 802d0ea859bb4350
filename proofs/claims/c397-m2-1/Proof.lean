import JvmDerived
import JvmDerived.Pilot.@@N@@Statement
import JvmDerived.Pilot.@@N@@Code
set_option linter.unusedVariables false
set_option linter.unusedSimpArgs false
namespace Jvm.Pilot.@@N@@
open Jvm Jvm.ClassFile Sem Op Lib Jvm.Free Jvm.Stand Jvm.LawKit Jvm.RoadKit Bundle Jvm.Pilot.@@N@@.Jvm.D
def Go (p : Program) (e : Env) (below : List Frame) (s : State) (Q : Option Value → Heap → List Loc → Prop) (C S : Nat) (V : State) : Prop :=
  ∃ (U : State) (o : Outcome), Steps p.tables e below V U ∧ U.status = .running ∧ Ended U below o ∧ ∃ v L, o = .returned v ∧ Q v U.heap L ∧ FrameEnd s o U L C S
def Ga (p : Program) (e : Env) (below : List Frame) (s : State) (Q : Option Value → Heap → List Loc → Prop) (C S : Nat) (T : State) (m : MethodId) (pc : Nat) (Ls : Array Slot) (st : List Value) : Prop :=
  Go p e below s Q C S (T.setTop (mkF m pc Ls st))
abbrev Ct (l : Launch) (Z : State) (y : MethodName) (bytes : ByteArray) (maxL : Nat) (ret : Option FieldType) (ws : List Jvm.Cond) (rm : Room) (as' : Array Value) (h0 : Heap) (Q : Option Value → Heap → List Loc → Prop) : Prop :=
  MetFree l y (head1 (Jvm.Cond.code y bytes maxL ret :: ws) rm) (fun a U => a = as' ∧ Z.Warmed39 U.vm ∧ U.heap = h0) (fun _ _ _ _ _ => True) (fun _ U o U' => ∃ v L, o = .returned v ∧ Q v U'.heap L ∧ FrameEnd U o U' L rm.cells rm.slots)
section GoKit
variable {p : Program} {l : Launch} {e : Env} {R : Room} {s : State} {m : MethodId} {args : Array Value} {below : List Frame} {meth : Method} {c : Code} {T T' : State} {locs : List Loc} {cells slots : Nat} {Q : Option Value → Heap → List Loc → Prop} {C S : Nat} {Z : State} {a0 : Array Value} {h : Heap} {pc q pc' : Nat} {Ls Ls' : Array Slot} {st st' : List Value} {own : String}
theorem Ga.stp (k : ∀ t, Steps p.tables e below (T'.setTop (mkF m pc' Ls' st')) t → Steps p.tables e below (T.setTop (mkF m pc Ls st)) t) (g : Ga p e below s Q C S T' m pc' Ls' st') : Ga p e below s Q C S T m pc Ls st := by
  obtain ⟨U, o, h, r⟩ := g
  exact ⟨U, o, k _ h, r⟩
theorem own_body {y : MethodName} {bytes : ByteArray} {maxL : Nat} {ret : Option FieldType} {ws : List Jvm.Cond} {rm : Room} {h0 : Heap} {as' : Array Value} (hpl : plainFor y = true) (hef : ∀ m, entryFrame m as' maxL = mkF m 0 Ls [])
    (body : ∀ (p : Program) (e : Env) (s : State) (m : MethodId) (below : List Frame) (meth : Method) (c : Code) (T : State), p.tables.exec = Jvm.exec → c.code = bytes → c.maxLocals = maxL → Z.Warmed39 s.vm → s.vm.findClass y.cls = some m.cls → meth.name = y.name → meth.sig.returnType = ret → meth.locks = false →
      Stand p l e rm s m as' below meth c T [] 0 0 → T.heap = h0 → Ga p e below s Q rm.cells rm.slots T m 0 Ls []) : Ct l Z y bytes maxL ret ws rm as' h0 Q := by
  refine MetFree.of_bodySF hpl hisR ?_
  intro p e s m args below meth c s₁ Bd hml0 hP hK
  obtain ⟨rfl, hZ, hh⟩ := hP
  have X0 : Stand p l e rm s m args below meth c s₁ [] 0 0 := Stand.of_body Bd
  have e0 : s₁.heap = h0 := by rw [← hh, Bd.state]; rfl
  obtain ⟨U, o, g1, g2⟩ := body p e s m below meth c s₁ Bd.exec Bd.bytes hml0 hZ (findClass_of_methodNamed Bd.named) (name_of_methodNamed Bd.named Bd.method).1 Bd.returns (BodyLoose.notSynchronized Bd) X0 e0
  exact ⟨U, o, castTop (hef m) g1, g2⟩
theorem Ga.out (X : Stand p l e R s m args below meth c T locs cells slots) {v : Option Value} (hlk : meth.locks = false) (hv : meth.sig.returnType = none → v = none) (hc : cells ≤ C) (hs : slots ≤ S) (hq : Q v T.heap locs)
    (k : ∀ fs, (∀ (f : JFrame) (acts : List Action), f.method = m → f.locked = none → f.entered = [] → (doReturn e (T.setTop f) acts v).1 = T.setFrames fs) → Steps p.tables e below (T.setTop (mkF m pc Ls st)) (T.setFrames fs)) : Ga p e below s Q C S T m pc Ls st := by
  obtain ⟨fs, hr, hrun, hended, hW, hsame⟩ := X.leave (v := v) hv hlk
  exact ⟨_, _, k fs hr, hrun, hended, _, _, rfl, hq, ⟨_, rfl⟩, hW, hsame.mono hc hs⟩
theorem g_iloadN (X : Stand p l e R s m args below meth c T locs cells slots) (hx : p.tables.exec = Jvm.exec) {k : Fin 4} {v : Int32} (hd : decode c.code pc = .ok (.iload_n k, 1)) (hp : pc + 1 = q) (hl : Ls[k.val]? = some (.val (.int v))) (g : Ga p e below s Q C S T m q Ls (.int v :: st)) : Ga p e below s Q C S T m pc Ls st := by
  subst hp
  exact Ga.stp (fun _ k => XS.iloadN X.here hx rfl hd hl k) g
theorem g_iload (X : Stand p l e R s m args below meth c T locs cells slots) (hx : p.tables.exec = Jvm.exec) {k : Nat} {v : Int32} (hd : decode c.code pc = .ok (.iload k, 2)) (hp : pc + 2 = q) (hl : Ls[k]? = some (.val (.int v))) (g : Ga p e below s Q C S T m q Ls (.int v :: st)) : Ga p e below s Q C S T m pc Ls st := by
  subst hp
  exact Ga.stp (fun _ k => XS.iload X.here hx rfl hd hl k) g
theorem g_aloadN (X : Stand p l e R s m args below meth c T locs cells slots) (hx : p.tables.exec = Jvm.exec) {k : Fin 4} {v : Value} (hd : decode c.code pc = .ok (.aload_n k, 1)) (hp : pc + 1 = q) (hl : Ls[k.val]? = some (.val v)) (hv : v.isRef = true) (g : Ga p e below s Q C S T m q Ls (v :: st)) : Ga p e below s Q C S T m pc Ls st := by
  subst hp
  exact Ga.stp (fun _ k => XS.aloadN X.here hx rfl hd hl hv k) g
theorem g_aload (X : Stand p l e R s m args below meth c T locs cells slots) (hx : p.tables.exec = Jvm.exec) {k : Nat} {v : Value} (hd : decode c.code pc = .ok (.aload k, 2)) (hp : pc + 2 = q) (hl : Ls[k]? = some (.val v)) (hv : v.isRef = true) (g : Ga p e below s Q C S T m q Ls (v :: st)) : Ga p e below s Q C S T m pc Ls st := by
  subst hp
  exact Ga.stp (fun _ k => XS.aload X.here hx rfl hd hl hv k) g
theorem g_istore (X : Stand p l e R s m args below meth c T locs cells slots) (hx : p.tables.exec = Jvm.exec) {k : Nat} {x : Int32} (hd : decode c.code pc = .ok (.istore k, 2)) (hp : pc + 2 = q) (hl : storeLocals Ls k (.int x) = some Ls') (g : Ga p e below s Q C S T m q Ls' st) : Ga p e below s Q C S T m pc Ls (.int x :: st) := by
  subst hp
  exact Ga.stp (fun _ k => XS.istore X.here hx rfl hd rfl hl k) g
theorem g_astore (X : Stand p l e R s m args below meth c T locs cells slots) (hx : p.tables.exec = Jvm.exec) {k : Nat} {x : Value} (hd : decode c.code pc = .ok (.astore k, 2)) (hp : pc + 2 = q) (hv : x.isRef = true) (hl : storeLocals Ls k x = some Ls') (g : Ga p e below s Q C S T m q Ls' st) : Ga p e below s Q C S T m pc Ls (x :: st) := by
  subst hp
  exact Ga.stp (fun _ k => XS.astore X.here hx rfl hd rfl hv hl k) g
theorem g_iconst (X : Stand p l e R s m args below meth c T locs cells slots) (hx : p.tables.exec = Jvm.exec) {i : Int} {r : Int32} (hd : decode c.code pc = .ok (.iconst i, 1)) (hp : pc + 1 = q) (hr : Int32.ofInt i = r) (g : Ga p e below s Q C S T m q Ls (.int r :: st)) : Ga p e below s Q C S T m pc Ls st := by
  subst hp hr
  exact Ga.stp (fun _ k => XS.iconst X.here hx rfl hd k) g
theorem g_bipush (X : Stand p l e R s m args below meth c T locs cells slots) (hx : p.tables.exec = Jvm.exec) {i : Int} {r : Int32} (hd : decode c.code pc = .ok (.bipush i, 2)) (hp : pc + 2 = q) (hr : (Int8.ofInt i).toInt32 = r) (g : Ga p e below s Q C S T m q Ls (.int r :: st)) : Ga p e below s Q C S T m pc Ls st := by
  subst hp hr
  exact Ga.stp (fun _ k => XS.bipush X.here hx rfl hd k) g
theorem g_aconst_null (X : Stand p l e R s m args below meth c T locs cells slots) (hx : p.tables.exec = Jvm.exec) (hd : decode c.code pc = .ok (.aconst_null, 1)) (hp : pc + 1 = q)  (g : Ga p e below s Q C S T m q Ls (.null :: st)) : Ga p e below s Q C S T m pc Ls st := by
  subst hp
  exact Ga.stp (fun _ k => XS.aconstNull X.here hx rfl hd k) g
theorem g_iadd (X : Stand p l e R s m args below meth c T locs cells slots) (hx : p.tables.exec = Jvm.exec) {x y r : Int32} (hd : decode c.code pc = .ok (.iadd, 1)) (hp : pc + 1 = q) (hr : x + y = r) (g : Ga p e below s Q C S T m q Ls (.int r :: st)) : Ga p e below s Q C S T m pc Ls (.int y :: .int x :: st) := by
  subst hp hr
  exact Ga.stp (fun _ k => XS.iadd X.here hx rfl hd rfl k) g
theorem g_iand (X : Stand p l e R s m args below meth c T locs cells slots) (hx : p.tables.exec = Jvm.exec) {x y r : Int32} (hd : decode c.code pc = .ok (.iand, 1)) (hp : pc + 1 = q) (hr : x &&& y = r) (g : Ga p e below s Q C S T m q Ls (.int r :: st)) : Ga p e below s Q C S T m pc Ls (.int y :: .int x :: st) := by
  subst hp hr
  exact Ga.stp (fun _ k => XS.iand X.here hx rfl hd rfl k) g
theorem g_irem (X : Stand p l e R s m args below meth c T locs cells slots) (hx : p.tables.exec = Jvm.exec) {x y r : Int32} (hd : decode c.code pc = .ok (.irem, 1)) (hp : pc + 1 = q) (hy : y ≠ 0) (hr : x % y = r) (g : Ga p e below s Q C S T m q Ls (.int r :: st)) : Ga p e below s Q C S T m pc Ls (.int y :: .int x :: st) := by
  subst hp hr
  exact Ga.stp (fun _ k => iremM X hx (g := mkF m pc Ls (.int y :: .int x :: st)) rfl hd rfl hy k) g
theorem g_pop (X : Stand p l e R s m args below meth c T locs cells slots) (hx : p.tables.exec = Jvm.exec) {x : Value} (hd : decode c.code pc = .ok (.pop, 1)) (hp : pc + 1 = q) (hc : x.category = 1) (g : Ga p e below s Q C S T m q Ls st) : Ga p e below s Q C S T m pc Ls (x :: st) := by
  subst hp
  exact Ga.stp (fun _ k => XS.pop X.here hx rfl hd rfl hc k) g
theorem g_dup (X : Stand p l e R s m args below meth c T locs cells slots) (hx : p.tables.exec = Jvm.exec) {x : Value} (hd : decode c.code pc = .ok (.dup, 1)) (hp : pc + 1 = q) (hc : x.category = 1) (g : Ga p e below s Q C S T m q Ls (x :: x :: st)) : Ga p e below s Q C S T m pc Ls (x :: st) := by
  subst hp
  exact Ga.stp (fun _ k => XS.dup X.here hx rfl hd rfl hc k) g
theorem g_dup_x1 (X : Stand p l e R s m args below meth c T locs cells slots) (hx : p.tables.exec = Jvm.exec) {x y : Value} (hd : decode c.code pc = .ok (.dup_x1, 1)) (hp : pc + 1 = q) (hc : x.category = 1) (hc' : y.category = 1) (g : Ga p e below s Q C S T m q Ls (x :: y :: x :: st)) : Ga p e below s Q C S T m pc Ls (x :: y :: st) := by
  subst hp
  exact Ga.stp (fun _ k => XS.dupX1 X.here hx rfl hd rfl hc hc' k) g
theorem g_goto (X : Stand p l e R s m args below meth c T locs cells slots) (hx : p.tables.exec = Jvm.exec) {o : Int} (hd : decode c.code pc = .ok (.goto o, 3)) (ho : 0 ≤ (pc : Int) + o) (hp : ((pc : Int) + o).toNat = q) (g : Ga p e below s Q C S T m q Ls st) : Ga p e below s Q C S T m pc Ls st :=
  Ga.stp (fun _ k => XS.goto X.here hx rfl rfl hd ho hp k) g
theorem g_ifY (X : Stand p l e R s m args below meth c T locs cells slots) (hx : p.tables.exec = Jvm.exec) {cd : ClassFile.Cond} {x : Int32} {o : Int} (hd : decode c.code pc = .ok (.ifCond cd o, 3)) (hc : ifCond.holds cd x = true) (ho : 0 ≤ (pc : Int) + o) (hp : ((pc : Int) + o).toNat = q) (g : Ga p e below s Q C S T m q Ls st) : Ga p e below s Q C S T m pc Ls (.int x :: st) :=
  Ga.stp (fun _ k => XS.ifYes X.here hx rfl rfl hd rfl hc ho hp k) g
theorem g_ifN (X : Stand p l e R s m args below meth c T locs cells slots) (hx : p.tables.exec = Jvm.exec) {cd : ClassFile.Cond} {x : Int32} {o : Int} (hd : decode c.code pc = .ok (.ifCond cd o, 3)) (hp : pc + 3 = q) (hc : ifCond.holds cd x = false) (g : Ga p e below s Q C S T m q Ls st) : Ga p e below s Q C S T m pc Ls (.int x :: st) := by
  subst hp
  exact Ga.stp (fun _ k => XS.ifNo X.here hx rfl hd rfl hc k) g
theorem g_icmpY (X : Stand p l e R s m args below meth c T locs cells slots) (hx : p.tables.exec = Jvm.exec) {cd : ClassFile.Cond} {x y : Int32} {o : Int} (hd : decode c.code pc = .ok (.if_icmp cd o, 3)) (hc : if_icmp.holds cd x y = true) (ho : 0 ≤ (pc : Int) + o) (hp : ((pc : Int) + o).toNat = q) (g : Ga p e below s Q C S T m q Ls st) : Ga p e below s Q C S T m pc Ls (.int y :: .int x :: st) :=
  Ga.stp (fun _ k => XS.icmpYes X.here hx rfl rfl hd rfl hc ho hp k) g
theorem g_icmpN (X : Stand p l e R s m args below meth c T locs cells slots) (hx : p.tables.exec = Jvm.exec) {cd : ClassFile.Cond} {x y : Int32} {o : Int} (hd : decode c.code pc = .ok (.if_icmp cd o, 3)) (hp : pc + 3 = q) (hc : if_icmp.holds cd x y = false) (g : Ga p e below s Q C S T m q Ls st) : Ga p e below s Q C S T m pc Ls (.int y :: .int x :: st) := by
  subst hp
  exact Ga.stp (fun _ k => XS.icmpNo X.here hx rfl hd rfl hc k) g
theorem g_retI (X : Stand p l e R s m args below meth c T locs cells slots) (hx : p.tables.exec = Jvm.exec) {z : Int32} (hret : meth.sig.returnType = some .int) (hlk : meth.locks = false) (hd : decode c.code pc = .ok (.ireturn, 1)) (hc : cells ≤ C) (hs : slots ≤ S) (hq : Q (some (.int z)) T.heap locs) : Ga p e below s Q C S T m pc Ls (.int z :: st) :=
  Ga.out X hlk (fun h => by rw [hret] at h; cases h) hc hs hq fun fs hr => retOut X hx hret rfl (Or.inl ⟨rfl, Or.inl rfl, z, rfl⟩) hd hr
theorem g_retN (X : Stand p l e R s m args below meth c T locs cells slots) (hx : p.tables.exec = Jvm.exec) {z r : Int32} {t : FieldType} (hret : meth.sig.returnType = some t) (ht : t = .boolean ∨ t = .byte ∨ t = .char ∨ t = .short) (hlk : meth.locks = false) (hd : decode c.code pc = .ok (.ireturn, 1)) (hr : nar t z = r) (hc : cells ≤ C) (hs : slots ≤ S) (hq : Q (some (.int r)) T.heap locs) : Ga p e below s Q C S T m pc Ls (.int z :: st) := by
  subst hr
  exact Ga.out X hlk (fun h => by rw [hret] at h; cases h) hc hs hq fun fs hr => retN X hx hret ht hd hr
theorem g_ret (X : Stand p l e R s m args below meth c T locs cells slots) (hx : p.tables.exec = Jvm.exec) (hret : meth.sig.returnType = none) (hlk : meth.locks = false) (hd : decode c.code pc = .ok (.return_, 1)) (hc : cells ≤ C) (hs : slots ≤ S) (hq : Q none T.heap locs) : Ga p e below s Q C S T m pc Ls [] :=
  Ga.out X hlk (fun _ => rfl) hc hs hq fun fs hr => X.returnOut hx hret hd hr
theorem g_ldcI (X : Stand p l e R s m args below meth c T locs cells slots) (hx : p.tables.exec = Jvm.exec) (hZ : Z.Warmed39 s.vm) (hown : s.vm.findClass own = some m.cls) {index : Nat} {v : Int32} (w : (Cond.constant own index v).before a0 Z = true) (hd : decode c.code pc = .ok (.ldc index, 2)) (hp : pc + 2 = q) (g : Ga p e below s Q C S T m q Ls (.int v :: st)) : Ga p e below s Q C S T m pc Ls st := by
  subst hp
  exact Ga.stp (fun t k => X.ldcInt hx hown (mvT hZ w) (g := mkF m pc Ls st) rfl hd t k) g
theorem g_new (X : Stand p l e R s m args below meth c T locs cells slots) (hx : p.tables.exec = Jvm.exec) (hZ : Z.Warmed39 s.vm) (hown : s.vm.findClass own = some m.cls) {K : String} {index n : Nat} (w : (Cond.classLink own index K).before a0 Z = true) (wi : (Cond.instantiable K n).before a0 Z = true) (wz : (Cond.initialized K).before a0 Z = true) (eT : T.heap = h)
    (hd : decode c.code pc = .ok (.new index, 3)) (hp : pc + 3 = q) (hc : cells + 1 ≤ R.cells) (hl : slots + n ≤ R.slots)
    (k : ∀ T' h' b, Stand p l e R s m args below meth c T' locs (cells + 1) (slots + n) → T'.heap = h' → b = h.size → Ext h h' → Exa Z h' b K → (∀ {O nm d : String} {ty : FieldType}, Laid Z a0 K O nm d → parseFieldDescriptor d = some ty → Fld Z h' b O nm d (defaultValue ty)) → Ga p e below s Q C S T' m q Ls (.ref b :: st)) : Ga p e below s Q C S T m pc Ls st := by
  subst hp
  obtain ⟨T', h', X', e', E', A', D', -, sx⟩ := newO X hx hZ hown w wi wz eT (g := mkF m pc Ls st) rfl hd hc hl
  exact Ga.stp sx (k T' h' _ X' e' rfl E' A' D')
theorem g_getF (X : Stand p l e R s m args below meth c T locs cells slots) (hx : p.tables.exec = Jvm.exec) (hZ : Z.Warmed39 s.vm) (hown : s.vm.findClass own = some m.cls) {R0 O n d host : String} {index : Nat} (w : (Cond.fieldLink own index R0 n d).before a0 Z = true ∨ (Cond.fieldLinkNest own index R0 n d host).before a0 Z = true) (via : Via Z R0 O n d) (eT : T.heap = h) {a : Addr} {v : Value} (F : Fld Z h a O n d v)
    (hd : decode c.code pc = .ok (.getfield index, 3)) (hp : pc + 3 = q) (k : ∀ T', Stand p l e R s m args below meth c T' locs cells slots → T'.heap = h → Ga p e below s Q C S T' m q Ls (v :: st)) : Ga p e below s Q C S T m pc Ls (.ref a :: st) := by
  subst hp
  obtain ⟨T', X', e', sx⟩ := getF X hx hZ hown w via eT F (g := mkF m pc Ls (.ref a :: st)) rfl rfl hd
  exact Ga.stp sx (k T' X' e')
theorem g_putF (X : Stand p l e R s m args below meth c T locs cells slots) (hx : p.tables.exec = Jvm.exec) (hZ : Z.Warmed39 s.vm) (hown : s.vm.findClass own = some m.cls) {R0 O n d host K : String} {index kk : Nat} {ty : FieldType} (w : (Cond.fieldLink own index R0 n d).before a0 Z = true ∨ (Cond.fieldLinkNest own index R0 n d host).before a0 Z = true) (via : Via Z R0 O n d) (eT : T.heap = h) {a : Addr} {v old : Value} (F : Fld Z h a O n d old) (E : Exa Z h a K)
    (L : (Cond.lays K O n d).before a0 Z = true ∨ ((Cond.laysFinal K O n d).before a0 Z = true ∧ own = O ∧ meth.name = "<init>")) (wi : (Cond.instantiable K kk).before a0 Z = true) (hty : parseFieldDescriptor d = some ty) (hn : narrow ty v = v) (hf : fits ty v = true)
    (hd : decode c.code pc = .ok (.putfield index, 3)) (hp : pc + 3 = q) (k : ∀ T' h', Stand p l e R s m args below meth c T' (locs ++ [⟨a, Jvm.RoadKit.slotOf Z O n d⟩]) cells slots → T'.heap = h' → Wr h h' a (Jvm.RoadKit.slotOf Z O n d) v → Fld Z h' a O n d v → Ga p e below s Q C S T' m q Ls st) : Ga p e below s Q C S T m pc Ls (v :: .ref a :: st) := by
  subst hp
  obtain ⟨T', h', X', e', W', sx⟩ := putF X hx hZ hown w via eT F E L wi hty hn hf (g := mkF m pc Ls (v :: .ref a :: st)) rfl rfl hd
  exact Ga.stp sx (k T' h' X' e' W' (F.same W'))
theorem g_initO (X : Stand p l e R s m args below meth c T locs cells slots) (hx : p.tables.exec = Jvm.exec) (hZ : Z.Warmed39 s.vm) (hown : s.vm.findClass own = some m.cls) {idx : Nat} (w1 : (Cond.methodLink own idx Lib.objectInit).before a0 Z = true) (w2 : (Cond.instanceMethod Lib.objectInit).before a0 Z = true) (w3 : (Cond.code Lib.objectInit ⟨#[0xb1]⟩ 1 none).before a0 Z = true) (eT : T.heap = h) (hsz : Ls.size = c.maxLocals) {a : Addr}
    (hd : decode c.code pc = .ok (.invokespecial idx, 3)) (hp : pc + 3 = q) (hf : 1 ≤ R.frames) {W : Nat} (hW : (st.map fun v => v.category).sum ≤ W) (hl : W + 12 ≤ R.locals) (k : ∀ T', Stand p l e R s m args below meth c T' locs cells slots → T'.heap = h → Ga p e below s Q C S T' m q Ls st) : Ga p e below s Q C S T m pc Ls (.ref a :: st) := by
  subst hp
  obtain ⟨T', X', e', sx⟩ := initO X hx hZ hown w1 w2 w3 eT (g := mkF m pc Ls (.ref a :: st)) rfl hsz rfl hd hf (W := W) (by show 2 * 0 + _ ≤ _; omega) hl
  exact Ga.stp sx (k T' X' e')
theorem g_static (X : Stand p l e R s m args below meth c T locs cells slots) (hx : p.tables.exec = Jvm.exec) (hZ : Z.Warmed39 s.vm) (hown : s.vm.findClass own = some m.cls) {index : Nat} {y : MethodName} {ret : Option FieldType} {bytes : ByteArray} {maxL : Nat} {rm : Room} {as' : Array Value} {Q' : Option Value → Heap → List Loc → Prop} (w1 : (Cond.methodLink own index y).before a0 Z = true) (w2 : (Cond.static y).before a0 Z = true) (w3 : (Cond.initialized y.cls).before a0 Z = true) (w4 : (Cond.code y bytes maxL ret).before a0 Z = true) (hy : y.cls ≠ "java/lang/invoke/MethodHandle" ∧ y.cls ≠ "java/lang/invoke/VarHandle")
    (hM : Ct l Z y bytes maxL ret [] rm as' h Q') (hsz : Ls.size = c.maxLocals) (eT : T.heap = h) (argsL : List Value) {rest : List Value} (has : as' = argsL.toArray) (hst : st = argsL.reverse ++ rest) {W : Nat} (hW : (rest.map fun v => v.category).sum ≤ W) (hf : rm.frames + 1 ≤ R.frames) (hl : W + (maxL + 11) + rm.locals ≤ R.locals) (hcl : cells + rm.cells ≤ R.cells) (hsl : slots + rm.slots ≤ R.slots) (hlen : ∀ sig, parseMethodDescriptor y.desc = some sig → argsL.length = sig.parameters.length) (hd : decode c.code pc = .ok (.invokestatic index, 3)) (hp : pc + 3 = q) (k : ∀ v T' L, Stand p l e R s m args below meth c T' (locs ++ L) (cells + rm.cells) (slots + rm.slots) → Q' v T'.heap L → Ga p e below s Q C S T' m q Ls (v.toList ++ rest)) : Ga p e below s Q C S T m pc Ls st := by
  subst hp has hst
  obtain ⟨_, _, ⟨T', L', k', n'⟩, -, X', ⟨Lc, hQ', l1, y1, z1⟩, sx⟩ := Jvm.LawKit.callS X hx (y := y) hown (mvT hZ w1) (mvT hZ w2) (mvT hZ w3) (mvT hZ w4) hy (backOf (W := W) hM hZ w4 w3 hf hl) (g := mkF m pc Ls (argsL.reverse ++ rest)) rfl hsz (argsL := argsL) (rest := rest) hlen rfl (by show 2 * 0 + _ ≤ _; omega) hd (fun _ _ => ⟨rfl, eT, hcl, hsl⟩)
  dsimp only [Pt.U, Pt.locs, Pt.cells, Pt.slots] at X' l1 y1 z1 sx hQ'
  subst l1 y1 z1
  exact Ga.stp sx (k _ T' Lc X' hQ')
theorem g_special (X : Stand p l e R s m args below meth c T locs cells slots) (hx : p.tables.exec = Jvm.exec) (hZ : Z.Warmed39 s.vm) (hown : s.vm.findClass own = some m.cls) {index : Nat} {y : MethodName} {bytes : ByteArray} {maxL : Nat} {rm : Room} {as' : Array Value} {Q' : Option Value → Heap → List Loc → Prop} (hy1 : y.name = "<init>") (w1 : (Cond.methodLink own index y).before a0 Z = true) (w2 : (Cond.instanceMethod y).before a0 Z = true) (w3 : (Cond.initialized y.cls).before a0 Z = true) (w4 : (Cond.code y bytes maxL none).before a0 Z = true) (hy : y.cls ≠ "java/lang/invoke/MethodHandle" ∧ y.cls ≠ "java/lang/invoke/VarHandle") {a : Addr}
    (hM : Ct l Z y bytes maxL none [] rm as' h Q') (hsz : Ls.size = c.maxLocals) (eT : T.heap = h) (argsL : List Value) {rest : List Value} (has : as' = (.ref a :: argsL).toArray) (hst : st = argsL.reverse ++ .ref a :: rest) {W : Nat} (hW : (rest.map fun v => v.category).sum ≤ W) (hf : rm.frames + 1 ≤ R.frames) (hl : W + (maxL + 11) + rm.locals ≤ R.locals) (hcl : cells + rm.cells ≤ R.cells) (hsl : slots + rm.slots ≤ R.slots) (hlen : ∀ sig, parseMethodDescriptor y.desc = some sig → argsL.length = sig.parameters.length) (hd : decode c.code pc = .ok (.invokespecial index, 3)) (hp : pc + 3 = q) (k : ∀ v T' L, Stand p l e R s m args below meth c T' (locs ++ L) (cells + rm.cells) (slots + rm.slots) → Q' v T'.heap L → Ga p e below s Q C S T' m q Ls (v.toList ++ rest)) : Ga p e below s Q C S T m pc Ls st := by
  subst hp has hst
  obtain ⟨_, _, ⟨T', L', k', n'⟩, -, X', ⟨Lc, hQ', l1, y1, z1⟩, sx⟩ := X.specialBack hx (y := y) hy1 hown (mvT hZ w1) (mvT hZ w2) (mvT hZ w4) hy (backOf (W := W) hM hZ w4 w3 hf hl) (g := mkF m pc Ls (argsL.reverse ++ .ref a :: rest)) rfl hsz (Steps.refl _) (a := a) (argsL := argsL) (rest := rest) hlen rfl (by show 2 * 0 + _ ≤ _; omega) hd (fun _ _ => ⟨rfl, eT, hcl, hsl⟩)
  dsimp only [Pt.U, Pt.locs, Pt.cells, Pt.slots] at X' l1 y1 z1 sx hQ'
  subst l1 y1 z1
  exact Ga.stp (fun _ kk => sx.trans kk) (k _ T' Lc X' hQ')
theorem g_virtual (X : Stand p l e R s m args below meth c T locs cells slots) (hx : p.tables.exec = Jvm.exec) (hZ : Z.Warmed39 s.vm) (hown : s.vm.findClass own = some m.cls) {index : Nat} {y z : MethodName} {K : String} {ret : Option FieldType} {bytes : ByteArray} {maxL : Nat} {rm : Room} {as' : Array Value} {Q' : Option Value → Heap → List Loc → Prop} (w1 : (Cond.methodLink own index y).before a0 Z = true) (w2 : (Cond.declares y).before a0 Z = true) (nf : NotFace s y) (w3 : (Cond.selects K y z).before a0 Z = true) (w4 : (Cond.instanceMethod z).before a0 Z = true) (w5 : (Cond.initialized z.cls).before a0 Z = true) (w6 : (Cond.code z bytes maxL ret).before a0 Z = true) (hy : y.cls ≠ "java/lang/invoke/MethodHandle" ∧ y.cls ≠ "java/lang/invoke/VarHandle") {a : Addr} (E : Exa Z h a K)
    (hM : Ct l Z z bytes maxL ret [] rm as' h Q') (hsz : Ls.size = c.maxLocals) (eT : T.heap = h) (argsL : List Value) {rest : List Value} (has : as' = (.ref a :: argsL).toArray) (hst : st = argsL.reverse ++ .ref a :: rest) {W : Nat} (hW : (rest.map fun v => v.category).sum ≤ W) (hf : rm.frames + 1 ≤ R.frames) (hl : W + (maxL + 11) + rm.locals ≤ R.locals) (hcl : cells + rm.cells ≤ R.cells) (hsl : slots + rm.slots ≤ R.slots) (hlen : ∀ sig, parseMethodDescriptor y.desc = some sig → argsL.length = sig.parameters.length) (hd : decode c.code pc = .ok (.invokevirtual index, 3)) (hp : pc + 3 = q) (k : ∀ v T' L, Stand p l e R s m args below meth c T' (locs ++ L) (cells + rm.cells) (slots + rm.slots) → Q' v T'.heap L → Ga p e below s Q C S T' m q Ls (v.toList ++ rest)) : Ga p e below s Q C S T m pc Ls st := by
  subst hp has hst
  obtain ⟨cq, kq, qa, qb, qc⟩ := isOf hZ eT E
  obtain ⟨_, _, ⟨T', L', k', n'⟩, -, X', ⟨Lc, hQ', l1, y1, z1⟩, sx⟩ := X.virtualBack hx (y := y) (z := z) hown (mvT hZ w1) (mvT hZ w2) nf (mvT hZ w3) (mvT hZ w4) hy (backOf (W := W) hM hZ w6 w5 hf hl) qa qc (g := mkF m pc Ls (argsL.reverse ++ .ref a :: rest)) rfl hsz (Steps.refl _) (argsL := argsL) (rest := rest) hlen rfl (by show 2 * 0 + _ ≤ _; omega) hd (fun _ _ => ⟨rfl, eT, hcl, hsl⟩)
  dsimp only [Pt.U, Pt.locs, Pt.cells, Pt.slots] at X' l1 y1 z1 sx hQ'
  subst l1 y1 z1
  exact Ga.stp (fun _ kk => sx.trans kk) (k _ T' Lc X' hQ')
variable {ka : ClassId} {ty : FieldType} {z j : Int32} {vs : List Value} {dv : Value} {a : Addr}
theorem g_len (X : Stand p l e R s m args below meth c T locs cells slots) (hx : p.tables.exec = Jvm.exec) (hZ : Z.Warmed39 s.vm) (eT : T.heap = h) (A : Arv Z h a ka ty z vs dv) (hd : decode c.code pc = .ok (.arraylength, 1)) (hp : pc + 1 = q) (g : Ga p e below s Q C S T m q Ls (.int z :: st)) : Ga p e below s Q C S T m pc Ls (.ref a :: st) := by
  subst hp
  obtain ⟨cl, Ar, -, Sz, N, -, -⟩ := A
  refine Ga.stp (fun t k => X.arraylength hx (by rw [eT]; exact Ar.1) (State.isArrayOf_alike hZ.alike Ar.2.1) (g := mkF m pc Ls (.ref a :: st)) rfl rfl hd t ?_) g
  rw [len_of Sz N]; exact k
theorem g_iaload (X : Stand p l e R s m args below meth c T locs cells slots) (hx : p.tables.exec = Jvm.exec) (hZ : Z.Warmed39 s.vm) (eT : T.heap = h) (A : Arv Z h a ka .int z vs dv) {v : Value} (hin : ¬ j < 0 ∧ j < z) (hv : vs.getD j.toNatClampNeg dv = v) (hd : decode c.code pc = .ok (.iaload, 1)) (hp : pc + 1 = q) (g : Ga p e below s Q C S T m q Ls (v :: st)) : Ga p e below s Q C S T m pc Ls (.int j :: .ref a :: st) := by
  subst hp
  obtain ⟨cl, Ar, -, Sz, N, Hs, -⟩ := A
  exact Ga.stp (fun t k => X.iaload hx (j := j) (v := v) (by rw [eT]; exact Ar.1) (State.isArrayOf_alike hZ.alike Ar.2.1) Ar.2.2 (inb_of Sz hin) (Hs.at (inb_of Sz hin) hv) (g := mkF m pc Ls (.int j :: .ref a :: st)) rfl rfl hd t k) g
theorem g_iastore (X : Stand p l e R s m args below meth c T locs cells slots) (hx : p.tables.exec = Jvm.exec) (hZ : Z.Warmed39 s.vm) (eT : T.heap = h) (A : Arv Z h a ka .int z vs dv) {x : Int32} (hin : ¬ j < 0 ∧ j < z) (hlen : j.toNatClampNeg < vs.length) (hd : decode c.code pc = .ok (.iastore, 1)) (hp : pc + 1 = q)
    (k : ∀ T' h', Stand p l e R s m args below meth c T' (locs ++ [⟨a, j.toNatClampNeg⟩]) cells slots → T'.heap = h' → Wr h h' a j.toNatClampNeg (.int x) → Arv Z h' a ka .int z (vs.set j.toNatClampNeg (.int x)) dv → Ga p e below s Q C S T' m q Ls st) : Ga p e below s Q C S T m pc Ls (.int x :: .int j :: .ref a :: st) := by
  subst hp
  obtain ⟨cl, Ar, q1, Sz, N, Hs, Gs⟩ := A
  obtain ⟨T', h', X', e', W', sx⟩ := stI X hx hZ eT Ar (j := j) (inb_of Sz hin) (g := mkF m pc Ls (.int x :: .int j :: .ref a :: st)) rfl rfl hd
  exact Ga.stp sx (k T' h' X' e' W' (Arv.set Ar q1 Sz N Hs Gs rfl W' _ rfl hlen))
theorem g_newarray (X : Stand p l e R s m args below meth c T locs cells slots) (hx : p.tables.exec = Jvm.exec) (hZ : Z.Warmed39 s.vm) {aty : ArrayType} (w : (Cond.arrayClass (newarray.typeOf aty)).before a0 Z = true) (eT : T.heap = h) {n : Int32} (hn : ¬ n < 0) (cap : Nat) (hcap : n.toNatClampNeg ≤ cap) (hb : cap * 8 ≤ 536870912) (hc : cells + 1 ≤ R.cells) (hl : slots + cap ≤ R.slots) {ad : String} (had : "[" ++ (newarray.typeOf aty).toString = ad) (hd : decode c.code pc = .ok (.newarray aty, 2)) (hp : pc + 2 = q)
    (k : ∀ T' h' b kA, Stand p l e R s m args below meth c T' locs (cells + 1) (slots + cap) → T'.heap = h' → b = h.size → Ext h h' → Exa Z h' b ad → Arv Z h' b kA (newarray.typeOf aty) n (List.replicate cap (defaultValue (newarray.typeOf aty))) (defaultValue (newarray.typeOf aty)) → Ga p e below s Q C S T' m q Ls (.ref b :: st)) : Ga p e below s Q C S T m pc Ls (.int n :: st) := by
  subst hp
  obtain ⟨T', h', cA, X', e', E', A', Ea, sx⟩ := newPE X hx hZ w eT (g := mkF m pc Ls (.int n :: st)) rfl hd rfl hn hcap hb hc hl had
  exact Ga.stp sx (k T' h' _ cA X' e' rfl E' Ea ((Arv.new A' hn).pad (by simpa using pad_rep [] (defaultValue (newarray.typeOf aty)) cap)))
theorem own_ne {b : Addr} (h1 : a < h.size) (h2 : b = h.size) : a ≠ b := Nat.ne_of_lt (h2 ▸ h1)
theorem own_neK {b : Addr} (h1 : a < h.size) (h2 : h.size ≤ b) : a ≠ b := Nat.ne_of_lt (Nat.lt_of_lt_of_le h1 h2)
end GoKit

theorem own_irrI (x : Int32) : ¬ x < x := Int32.lt_irrefl
theorem own_irrJ (x : Int64) : ¬ x < x := Int64.lt_irrefl
theorem own_narc (x : Int32) : nar .char (x &&& (255 : Int32)) = (x &&& (255 : Int32)) := i2c_mask x
theorem own_nar (x : Int32) : nar .byte x = x.toInt8.toInt32 := rfl
theorem own_bb (x : Int32) : x.toInt8.toInt32.toInt8.toInt32 = x.toInt8.toInt32 := by simp
theorem own_nb {h : Heap} {b b' y : Addr} (hb : b' = b ∨ h.size ≤ b') (lt : y < h.size) (ne : y ≠ b) : y ≠ b' := hb.elim (fun q => q ▸ ne) (fun q => Nat.ne_of_lt (Nat.lt_of_lt_of_le lt q))
theorem own_ng {h : Heap} {b b' : Addr} {n0 : Nat} (hb : b' = b ∨ h.size ≤ b') (g : n0 ≤ b) (Z : n0 ≤ h.size) : n0 ≤ b' := hb.elim (fun q => q ▸ g) (fun q => Nat.le_trans Z q)
theorem own_insK {Z : State} {h h' : Heap} {a : Addr} {C : String} {ws : List Addr} (F : Ins Z h a C true) (K : Keep h h' ws) : Ins Z h' a C true := by
  obtain ⟨cell, cT, h1, h2, h3⟩ := F
  obtain ⟨c', q1, q2, q3, -⟩ := K.2.2 _ _ h1
  exact ⟨c', cT, q1, h2, by rw [q2, q3]; exact h3⟩
theorem d_jdk_41_m_11_0 : decode jdk_41_method_11_code 0 = .ok (.iload_n 0, 1) := by decide +kernel
theorem d_jdk_41_m_11_1 : decode jdk_41_method_11_code 1 = .ok (.ifCond .lt 8, 3) := by decide +kernel
theorem d_jdk_41_m_11_4 : decode jdk_41_method_11_code 4 = .ok (.iload_n 0, 1) := by decide +kernel
theorem d_jdk_41_m_11_5 : decode jdk_41_method_11_code 5 = .ok (.iload_n 1, 1) := by decide +kernel
theorem d_jdk_41_m_11_6 : decode jdk_41_method_11_code 6 = .ok (.if_icmp .lt 10, 3) := by decide +kernel
theorem d_jdk_41_m_11_16 : decode jdk_41_method_11_code 16 = .ok (.iload_n 0, 1) := by decide +kernel
theorem d_jdk_41_m_11_17 : decode jdk_41_method_11_code 17 = .ok (.ireturn, 1) := by decide +kernel
theorem d_jdk_31_m_17_0 : decode jdk_31_method_17_code 0 = .ok (.iload_n 0, 1) := by decide +kernel
theorem d_jdk_31_m_17_1 : decode jdk_31_method_17_code 1 = .ok (.iload_n 1, 1) := by decide +kernel
theorem d_jdk_31_m_17_2 : decode jdk_31_method_17_code 2 = .ok (.aconst_null, 1) := by decide +kernel
theorem d_jdk_31_m_17_3 : decode jdk_31_method_17_code 3 = .ok (.invokestatic 105, 3) := by decide +kernel
theorem d_jdk_31_m_17_6 : decode jdk_31_method_17_code 6 = .ok (.ireturn, 1) := by decide +kernel
theorem d_prog_10_m_1_0 : decode prog_10_method_1_code 0 = .ok (.aload_n 0, 1) := by decide +kernel
theorem d_prog_10_m_1_1 : decode prog_10_method_1_code 1 = .ok (.invokespecial 1, 3) := by decide +kernel
theorem d_prog_10_m_1_4 : decode prog_10_method_1_code 4 = .ok (.aload_n 0, 1) := by decide +kernel
theorem d_prog_10_m_1_5 : decode prog_10_method_1_code 5 = .ok (.bipush 16, 2) := by decide +kernel
theorem d_prog_10_m_1_7 : decode prog_10_method_1_code 7 = .ok (.newarray .int, 2) := by decide +kernel
theorem d_prog_10_m_1_9 : decode prog_10_method_1_code 9 = .ok (.putfield 7, 3) := by decide +kernel
theorem d_prog_10_m_1_12 : decode prog_10_method_1_code 12 = .ok (.return_, 1) := by decide +kernel
theorem d_prog_10_m_4_0 : decode prog_10_method_4_code 0 = .ok (.aload_n 0, 1) := by decide +kernel
theorem d_prog_10_m_4_1 : decode prog_10_method_4_code 1 = .ok (.getfield 13, 3) := by decide +kernel
theorem d_prog_10_m_4_4 : decode prog_10_method_4_code 4 = .ok (.aload_n 0, 1) := by decide +kernel
theorem d_prog_10_m_4_5 : decode prog_10_method_4_code 5 = .ok (.getfield 7, 3) := by decide +kernel
theorem d_prog_10_m_4_8 : decode prog_10_method_4_code 8 = .ok (.arraylength, 1) := by decide +kernel
theorem d_prog_10_m_4_9 : decode prog_10_method_4_code 9 = .ok (.if_icmp .ne 21, 3) := by decide +kernel
theorem d_prog_10_m_4_30 : decode prog_10_method_4_code 30 = .ok (.aload_n 0, 1) := by decide +kernel
theorem d_prog_10_m_4_31 : decode prog_10_method_4_code 31 = .ok (.getfield 7, 3) := by decide +kernel
theorem d_prog_10_m_4_34 : decode prog_10_method_4_code 34 = .ok (.aload_n 0, 1) := by decide +kernel
theorem d_prog_10_m_4_35 : decode prog_10_method_4_code 35 = .ok (.dup, 1) := by decide +kernel
theorem d_prog_10_m_4_36 : decode prog_10_method_4_code 36 = .ok (.getfield 13, 3) := by decide +kernel
theorem d_prog_10_m_4_39 : decode prog_10_method_4_code 39 = .ok (.dup_x1, 1) := by decide +kernel
theorem d_prog_10_m_4_40 : decode prog_10_method_4_code 40 = .ok (.iconst 1, 1) := by decide +kernel
theorem d_prog_10_m_4_41 : decode prog_10_method_4_code 41 = .ok (.iadd, 1) := by decide +kernel
theorem d_prog_10_m_4_42 : decode prog_10_method_4_code 42 = .ok (.putfield 13, 3) := by decide +kernel
theorem d_prog_10_m_4_45 : decode prog_10_method_4_code 45 = .ok (.iload_n 1, 1) := by decide +kernel
theorem d_prog_10_m_4_46 : decode prog_10_method_4_code 46 = .ok (.iastore, 1) := by decide +kernel
theorem d_prog_10_m_4_47 : decode prog_10_method_4_code 47 = .ok (.return_, 1) := by decide +kernel
theorem d_prog_10_m_3_0 : decode prog_10_method_3_code 0 = .ok (.iload_n 1, 1) := by decide +kernel
theorem d_prog_10_m_3_1 : decode prog_10_method_3_code 1 = .ok (.aload_n 0, 1) := by decide +kernel
theorem d_prog_10_m_3_2 : decode prog_10_method_3_code 2 = .ok (.getfield 13, 3) := by decide +kernel
theorem d_prog_10_m_3_5 : decode prog_10_method_3_code 5 = .ok (.invokestatic 17, 3) := by decide +kernel
theorem d_prog_10_m_3_8 : decode prog_10_method_3_code 8 = .ok (.pop, 1) := by decide +kernel
theorem d_prog_10_m_3_9 : decode prog_10_method_3_code 9 = .ok (.aload_n 0, 1) := by decide +kernel
theorem d_prog_10_m_3_10 : decode prog_10_method_3_code 10 = .ok (.getfield 7, 3) := by decide +kernel
theorem d_prog_10_m_3_13 : decode prog_10_method_3_code 13 = .ok (.iload_n 1, 1) := by decide +kernel
theorem d_prog_10_m_3_14 : decode prog_10_method_3_code 14 = .ok (.iaload, 1) := by decide +kernel
theorem d_prog_10_m_3_15 : decode prog_10_method_3_code 15 = .ok (.ireturn, 1) := by decide +kernel
theorem d_prog_10_m_5_0 : decode prog_10_method_5_code 0 = .ok (.iload_n 1, 1) := by decide +kernel
theorem d_prog_10_m_5_1 : decode prog_10_method_5_code 1 = .ok (.aload_n 0, 1) := by decide +kernel
theorem d_prog_10_m_5_2 : decode prog_10_method_5_code 2 = .ok (.getfield 13, 3) := by decide +kernel
theorem d_prog_10_m_5_5 : decode prog_10_method_5_code 5 = .ok (.invokestatic 17, 3) := by decide +kernel
theorem d_prog_10_m_5_8 : decode prog_10_method_5_code 8 = .ok (.pop, 1) := by decide +kernel
theorem d_prog_10_m_5_9 : decode prog_10_method_5_code 9 = .ok (.aload_n 0, 1) := by decide +kernel
theorem d_prog_10_m_5_10 : decode prog_10_method_5_code 10 = .ok (.getfield 7, 3) := by decide +kernel
theorem d_prog_10_m_5_13 : decode prog_10_method_5_code 13 = .ok (.iload_n 1, 1) := by decide +kernel
theorem d_prog_10_m_5_14 : decode prog_10_method_5_code 14 = .ok (.iload_n 2, 1) := by decide +kernel
theorem d_prog_10_m_5_15 : decode prog_10_method_5_code 15 = .ok (.iastore, 1) := by decide +kernel
theorem d_prog_10_m_5_16 : decode prog_10_method_5_code 16 = .ok (.return_, 1) := by decide +kernel
theorem d_prog_10_m_2_0 : decode prog_10_method_2_code 0 = .ok (.aload_n 0, 1) := by decide +kernel
theorem d_prog_10_m_2_1 : decode prog_10_method_2_code 1 = .ok (.getfield 13, 3) := by decide +kernel
theorem d_prog_10_m_2_4 : decode prog_10_method_2_code 4 = .ok (.ireturn, 1) := by decide +kernel
theorem pd_0 : parseMethodDescriptor "(IILjava/util/function/BiFunction;)I" = some ⟨[.int, .int, (.object "java/util/function/BiFunction")], some .int⟩ := by decide +kernel
theorem pd_1 : parseMethodDescriptor "(II)I" = some ⟨[.int, .int], some .int⟩ := by decide +kernel
theorem pd_2 : parseMethodDescriptor "()V" = some ⟨[], none⟩ := by decide +kernel
theorem pd_3 : parseMethodDescriptor "(I)V" = some ⟨[.int], none⟩ := by decide +kernel
theorem pd_4 : parseMethodDescriptor "(II)V" = some ⟨[.int, .int], none⟩ := by decide +kernel
theorem pd_5 : parseMethodDescriptor "()I" = some ⟨[], some .int⟩ := by decide +kernel
theorem pd_6 : parseMethodDescriptor "(I)I" = some ⟨[.int], some .int⟩ := by decide +kernel
theorem pn_0 : plainName "jdk/internal/util/Preconditions" = true := by first | (simp [plainName, overriddenIn]; done) | decide +kernel
theorem pn_1 : plainName "java/util/Objects" = true := by first | (simp [plainName, overriddenIn]; done) | decide +kernel
theorem pn_2 : plainName "com/example/dunlin/dunlin/IntList" = true := by first | (simp [plainName, overriddenIn]; done) | decide +kernel
theorem pn_3 : plainName "com/example/dunlin/dunlin/IntListSetPinLaw" = true := by first | (simp [plainName, overriddenIn]; done) | decide +kernel
theorem own_lt32 {x y : Int32} : x < y ↔ x.toInt < y.toInt := Int32.lt_iff_toInt_lt
theorem own_eq32 {x y : Int32} : x = y ↔ x.toInt = y.toInt := Int32.toInt_inj.symm
theorem own_i0 : (0 : Int32).toInt = 0 := rfl
theorem own_i1 : (1 : Int32).toInt = 1 := rfl
theorem own_nat {j z : Int32} (h0 : ¬ j < 0) (h : j < z) : j.toNatClampNeg < z.toNatClampNeg := by
  have a := nat_of h0
  have hz : ¬ z < 0 := by rw [own_lt32] at *; rw [own_i0] at *; omega
  have b := nat_of hz
  rw [own_lt32] at h; omega
theorem own_mx {x v : Int32} (h : (x &&& (2147483647 : Int32)) = v) : ¬ v < (0 : Int32) := by
  have e := c_mask x 2147483647 31 (by decide) (by decide)
  rw [h] at e; rw [own_lt32, own_i0]; omega
theorem own_mx1 {x v : Int32} (h : (x &&& (2147483647 : Int32)) = v) (h0 : ¬ v = 0) : ¬ v < (1 : Int32) := by
  have e := c_mask x 2147483647 31 (by decide) (by decide)
  rw [h] at e; rw [own_eq32, own_i0] at h0; rw [own_lt32, own_i1]; omega
theorem own_rem3 {x v : Int32} (h0 : ¬ x < (0 : Int32)) (h : (x % (3 : Int32)) = v) : v = (0 : Int32) ∨ v = (1 : Int32) ∨ v = (2 : Int32) := by
  have e := (c_irem x 3 3 rfl).1 (by rw [own_lt32, own_i0] at h0; omega)
  rw [h] at e
  have : v.toInt = 0 ∨ v.toInt = 1 ∨ v.toInt = 2 := by omega
  rcases this with q | q | q
  · left; exact Int32.toInt_inj.mp q
  · right; left; exact Int32.toInt_inj.mp q
  · right; right; exact Int32.toInt_inj.mp q
theorem own_ushr0 (x q : Int32) (k : Nat) (hk : q.toBitVec.toNat % 32 = k) (hk0 : 0 < k) : ¬ ((x.toUInt32 >>> (q &&& 31).toUInt32).toInt32) < (0 : Int32) := by
  have e := c_iushr x q k hk hk0
  rw [own_lt32, e, own_i0]
  have : 0 ≤ (x.toInt % 4294967296) / ((2 ^ k : Nat) : Int) := Int.ediv_nonneg (Int.emod_nonneg _ (by decide)) (Int.natCast_nonneg _)
  omega
theorem own_rem1 {x v : Int32} (h0 : ¬ x < (0 : Int32)) (h : (x % (1 : Int32)) = v) : v = (0 : Int32) := by
  have e := (c_irem x 1 1 rfl).1 (by rw [own_lt32, own_i0] at h0; omega)
  rw [h] at e; rw [own_eq32, own_i0]; omega
theorem own_rem2 {x v : Int32} (h0 : ¬ x < (0 : Int32)) (h : (x % (2 : Int32)) = v) : v = (0 : Int32) ∨ v = (1 : Int32) := by
  have e := (c_irem x 2 2 rfl).1 (by rw [own_lt32, own_i0] at h0; omega)
  rw [h] at e
  have : v.toInt = 0 ∨ v.toInt = 1 := by omega
  rcases this with q | q
  · left; exact Int32.toInt_inj.mp q
  · right; exact Int32.toInt_inj.mp q

def Q_pci (Z : State) (i : Int32) (n : Int32) (h0 : Heap) (n0 : Nat) (v : Option Value) (h : Heap) (L : List Loc) : Prop := v = some (.int i) ∧ Fr n0 L ∧ h = h0
theorem ef_pci (m : MethodId) (x0 : Int32) (x1 : Int32) : entryFrame m #[(.int x0), (.int x1), .null] 3 = mkF m 0 #[.val (.int x0), .val (.int x1), .val .null] [] := by first | (simp [entryFrame, mkF, argsToLocals, Value.category]; done) | rfl
set_option maxRecDepth 65536 in
set_option maxHeartbeats 40000000 in
theorem rm_pci (l : Launch) (Z : State) (a0 : Array Value) (hw : ∀ d ∈ tables_1, d.before a0 Z = true) (i : Int32) (n : Int32) (h0 : Heap) (n0 : Nat) (Z0 : n0 ≤ h0.size) (hi0 : ¬ i < (0 : Int32)) (hi1 : i < n) :
    Ct l Z (⟨"jdk/internal/util/Preconditions", "checkIndex", "(IILjava/util/function/BiFunction;)I"⟩ : MethodName) jdk_41_method_11_code 3 (some .int) [] ({ frames := 0, cells := 0, slots := 0, locals := 0 } : Room) #[(.int i), (.int n), .null] h0 (Q_pci Z i n h0 n0) := by
  refine own_body (plainFor_of_name pn_0) (fun m => ef_pci m i n) ?_
  intro p e s m below meth c T0 hx hby hml hZ hown hnm hret hlk X0 e0
  have N0 := Fr.nil n0
  refine g_iloadN X0 hx (hb hby d_jdk_41_m_11_0) rfl rfl ?_
  have hc1 : ¬ i < (0 : Int32) := hi0
  refine g_ifN X0 hx (hb hby d_jdk_41_m_11_1) rfl (XT.i0_lt_f hc1) ?_
  refine g_iloadN X0 hx (hb hby d_jdk_41_m_11_4) rfl rfl ?_
  refine g_iloadN X0 hx (hb hby d_jdk_41_m_11_5) rfl rfl ?_
  have hc6 : i < n := hi1
  refine g_icmpY X0 hx (q := 16) (hb hby d_jdk_41_m_11_6) (XT.ii_lt_t hc6) (by decide) (by decide) ?_
  refine g_iloadN X0 hx (hb hby d_jdk_41_m_11_16) rfl rfl ?_
  exact g_retI X0 hx hret hlk (hb hby d_jdk_41_m_11_17) (by decide) (by decide) (by rw [e0]; exact ⟨rfl, N0, rfl⟩)
def Q_oci (Z : State) (i : Int32) (n : Int32) (h0 : Heap) (n0 : Nat) (v : Option Value) (h : Heap) (L : List Loc) : Prop := v = some (.int i) ∧ Fr n0 L ∧ h = h0
theorem ef_oci (m : MethodId) (x0 : Int32) (x1 : Int32) : entryFrame m #[(.int x0), (.int x1)] 2 = mkF m 0 #[.val (.int x0), .val (.int x1)] [] := by first | (simp [entryFrame, mkF, argsToLocals, Value.category]; done) | rfl
set_option maxRecDepth 65536 in
set_option maxHeartbeats 40000000 in
theorem rm_oci (l : Launch) (Z : State) (a0 : Array Value) (hw : ∀ d ∈ tables_1, d.before a0 Z = true) (i : Int32) (n : Int32) (h0 : Heap) (n0 : Nat) (Z0 : n0 ≤ h0.size) (hi0 : ¬ i < (0 : Int32)) (hi1 : i < n) :
    Ct l Z (⟨"java/util/Objects", "checkIndex", "(II)I"⟩ : MethodName) jdk_31_method_17_code 2 (some .int) [] ({ frames := 1, cells := 0, slots := 0, locals := 14 } : Room) #[(.int i), (.int n)] h0 (Q_oci Z i n h0 n0) := by
  refine own_body (plainFor_of_name pn_1) (fun m => ef_oci m i n) ?_
  intro p e s m below meth c T0 hx hby hml hZ hown hnm hret hlk X0 e0
  have N0 := Fr.nil n0
  refine g_iloadN X0 hx (hb hby d_jdk_31_m_17_0) rfl rfl ?_
  refine g_iloadN X0 hx (hb hby d_jdk_31_m_17_1) rfl rfl ?_
  refine g_aconst_null X0 hx (hb hby d_jdk_31_m_17_2) rfl  ?_
  refine g_static X0 hx hZ hown (hw _ (List.mem_of_getElem? (i := 29) rfl)) (hw _ (List.mem_of_getElem? (i := 30) rfl)) (hw _ (List.mem_of_getElem? (i := 31) rfl)) (hw _ (List.mem_of_getElem? (i := 32) rfl)) (by decide) (rm_pci l Z a0 hw i n h0 n0 Z0 (by first | decide | assumption | rfl) (by first | decide | assumption | rfl)) (by rw [hml]; rfl) e0 [(.int i), (.int n), .null] rfl rfl (W := 0) (Nat.le_of_eq rfl) (by decide) (by decide) (by decide) (by decide) (lenOf pd_0 rfl) (hb hby d_jdk_31_m_17_3) rfl fun v1 T1 L1 X1 hQ1 => ?_
  obtain ⟨rfl, Nq1, eh1⟩ := hQ1
  have N1 := Fr.app N0 Nq1
  show Ga _ _ _ _ _ _ _ _ _ _ _ [(.int i)]
  exact g_retI X1 hx hret hlk (hb hby d_jdk_31_m_17_6) (by decide) (by decide) (by rw [eh1]; exact ⟨rfl, N1, rfl⟩)
def Q_ini (Z : State) (a : Addr) (h0 : Heap) (n0 : Nat) (v : Option Value) (h : Heap) (L : List Loc) : Prop := ∃ (b : Addr) (ka : ClassId), v = none ∧ Fr n0 L ∧ Keep h0 h [a] ∧ Exa Z h a "com/example/dunlin/dunlin/IntList" ∧ h0.size ≤ b ∧ a ≠ b ∧ Fld Z h a "com/example/dunlin/dunlin/IntList" "m_aValues" "[I" (.ref b) ∧ Fld Z h a "com/example/dunlin/dunlin/IntList" "m_nSize" "I" (.int (0 : Int32)) ∧ Arv Z h b ka .int (16 : Int32) [(.int (0 : Int32)), (.int (0 : Int32)), (.int (0 : Int32)), (.int (0 : Int32)), (.int (0 : Int32)), (.int (0 : Int32)), (.int (0 : Int32)), (.int (0 : Int32)), (.int (0 : Int32)), (.int (0 : Int32)), (.int (0 : Int32)), (.int (0 : Int32)), (.int (0 : Int32)), (.int (0 : Int32)), (.int (0 : Int32)), (.int (0 : Int32))] (.int (0 : Int32))
theorem ef_ini (m : MethodId) (x0 : Addr) : entryFrame m #[(.ref x0)] 1 = mkF m 0 #[.val (.ref x0)] [] := by first | (simp [entryFrame, mkF, argsToLocals, Value.category]; done) | rfl
set_option maxRecDepth 65536 in
set_option maxHeartbeats 40000000 in
theorem rm_ini (l : Launch) (Z : State) (a0 : Array Value) (hw : ∀ d ∈ tables_1, d.before a0 Z = true) (a : Addr) (h0 : Heap) (n0 : Nat) (Z0 : n0 ≤ h0.size) (F_m_aValues_a : Fld Z h0 a "com/example/dunlin/dunlin/IntList" "m_aValues" "[I" .null) (F_m_nSize_a : Fld Z h0 a "com/example/dunlin/dunlin/IntList" "m_nSize" "I" (.int (0 : Int32))) (E_a : Exa Z h0 a "com/example/dunlin/dunlin/IntList") (g_a : n0 ≤ a) :
    Ct l Z (⟨"com/example/dunlin/dunlin/IntList", "<init>", "()V"⟩ : MethodName) prog_10_method_1_code 1 none [] ({ frames := 1, cells := 1, slots := 16, locals := 12 } : Room) #[(.ref a)] h0 (Q_ini Z a h0 n0) := by
  refine own_body (plainFor_of_name pn_2) (fun m => ef_ini m a) ?_
  intro p e s m below meth c T0 hx hby hml hZ hown hnm hret hlk X0 e0
  have N0 := Fr.nil n0
  refine g_aloadN X0 hx (hb hby d_prog_10_m_1_0) rfl rfl rfl ?_
  refine g_initO X0 hx hZ hown (hw _ (List.mem_of_getElem? (i := 7) rfl)) (hw _ (List.mem_of_getElem? (i := 8) rfl)) (hw _ (List.mem_of_getElem? (i := 9) rfl)) e0 (by rw [hml]; rfl) (hb hby d_prog_10_m_1_1) rfl (by decide) (W := 0) (Nat.le_of_eq rfl) (by decide) fun T1 X1 e1 => ?_
  refine g_aloadN X1 hx (hb hby d_prog_10_m_1_4) rfl rfl rfl ?_
  refine g_bipush X1 hx (r := (16 : Int32)) (hb hby d_prog_10_m_1_5) rfl rfl ?_
  refine g_newarray X1 hx hZ (aty := .int) (hw _ (List.mem_of_getElem? (i := 10) rfl)) e1 (by decide) 16 (by decide) (by decide) (by decide) (by decide) (ad := "[I") (by decide) (hb hby d_prog_10_m_1_7) rfl fun T2 h2 b2 ka2 X2 e2 q2 E2 A2 V2 => ?_
  have ne_a_b2 : a ≠ b2 := own_ne F_m_aValues_a.lt q2
  have g_b2 : n0 ≤ b2 := Nat.le_trans Z0 (Nat.le_of_eq q2.symm)
  have sz_b2 : h0.size ≤ b2 := Nat.le_trans (Keep.refl h0 [a]).1 (Nat.le_of_eq q2.symm)
  have Z2 : n0 ≤ h2.size := Nat.le_trans Z0 E2.1
  have kk2 : Keep h0 h2 [a] := (Keep.refl h0 [a]).ext E2
  have Vn2 : Arv Z h2 b2 ka2 .int (16 : Int32) [(.int (0 : Int32)), (.int (0 : Int32)), (.int (0 : Int32)), (.int (0 : Int32)), (.int (0 : Int32)), (.int (0 : Int32)), (.int (0 : Int32)), (.int (0 : Int32)), (.int (0 : Int32)), (.int (0 : Int32)), (.int (0 : Int32)), (.int (0 : Int32)), (.int (0 : Int32)), (.int (0 : Int32)), (.int (0 : Int32)), (.int (0 : Int32))] (.int (0 : Int32)) := V2
  have f4 : Fld Z h2 a "com/example/dunlin/dunlin/IntList" "m_aValues" "[I" .null := (F_m_aValues_a.ext E2)
  have f5 : Exa Z h2 a "com/example/dunlin/dunlin/IntList" := (E_a.ext E2)
  refine g_putF X2 hx hZ hown (host := "") (Or.inl (hw _ (List.mem_of_getElem? (i := 11) rfl))) Via.refl e2 f4 f5 (Or.inl (hw _ (List.mem_of_getElem? (i := 12) rfl))) (hw _ (List.mem_of_getElem? (i := 2) rfl)) (ty := (.array .int)) (by decide) rfl rfl (hb hby d_prog_10_m_1_9) rfl fun T3 h3 X3 e3 W3 F3 => ?_
  have kk3 : Keep h0 h3 [a] := kk2.wr W3 (Or.inl (by simp))
  have N3 := Fr.snoc X3 N0 g_a
  have Z3 : n0 ≤ h3.size := by rw [W3.size]; exact Z2
  have f6 : Exa Z h3 a "com/example/dunlin/dunlin/IntList" := (f5.wr W3)
  have f7 : Fld Z h3 a "com/example/dunlin/dunlin/IntList" "m_nSize" "I" (.int (0 : Int32)) := ((F_m_nSize_a.ext E2).other W3 (Or.inr (slot_ne (Or.inl (hw _ (List.mem_of_getElem? (i := 19) rfl))) (Or.inl (hw _ (List.mem_of_getElem? (i := 12) rfl))) (by decide) (t := .int) (t' := (.array .int)) (by decide) (by decide))))
  have f8 : Arv Z h3 b2 ka2 .int (16 : Int32) [(.int (0 : Int32)), (.int (0 : Int32)), (.int (0 : Int32)), (.int (0 : Int32)), (.int (0 : Int32)), (.int (0 : Int32)), (.int (0 : Int32)), (.int (0 : Int32)), (.int (0 : Int32)), (.int (0 : Int32)), (.int (0 : Int32)), (.int (0 : Int32)), (.int (0 : Int32)), (.int (0 : Int32)), (.int (0 : Int32)), (.int (0 : Int32))] (.int (0 : Int32)) := (Vn2.other W3 (Ne.symm ne_a_b2))
  exact g_ret X3 hx hret hlk (hb hby d_prog_10_m_1_12) (by decide) (by decide) (by rw [e3]; exact ⟨b2, ka2, rfl, N3, kk3, f6, sz_b2, ne_a_b2, F3, f7, f8⟩)
def Q_add (Z : State) (a : Addr) (b : Addr) (ka : ClassId) (n : Int32) (vs : List Value) (x : Int32) (h0 : Heap) (n0 : Nat) (v : Option Value) (h : Heap) (L : List Loc) : Prop := v = none ∧ Fr n0 L ∧ Keep h0 h [a, b] ∧ Exa Z h a "com/example/dunlin/dunlin/IntList" ∧ Fld Z h a "com/example/dunlin/dunlin/IntList" "m_aValues" "[I" (.ref b) ∧ Fld Z h a "com/example/dunlin/dunlin/IntList" "m_nSize" "I" (.int (n + (1 : Int32))) ∧ Arv Z h b ka .int (16 : Int32) (List.set vs (n).toNatClampNeg (.int x)) (.int (0 : Int32))
theorem ef_add (m : MethodId) (x0 : Addr) (x1 : Int32) : entryFrame m #[(.ref x0), (.int x1)] 2 = mkF m 0 #[.val (.ref x0), .val (.int x1)] [] := by first | (simp [entryFrame, mkF, argsToLocals, Value.category]; done) | rfl
set_option maxRecDepth 65536 in
set_option maxHeartbeats 40000000 in
theorem rm_add (l : Launch) (Z : State) (a0 : Array Value) (hw : ∀ d ∈ tables_1, d.before a0 Z = true) (a : Addr) (b : Addr) (ka : ClassId) (n : Int32) (vs : List Value) (x : Int32) (h0 : Heap) (n0 : Nat) (Z0 : n0 ≤ h0.size) (F_m_nSize_a : Fld Z h0 a "com/example/dunlin/dunlin/IntList" "m_nSize" "I" (.int n)) (F_m_aValues_a : Fld Z h0 a "com/example/dunlin/dunlin/IntList" "m_aValues" "[I" (.ref b)) (V_b : Arv Z h0 b ka .int (16 : Int32) vs (.int (0 : Int32))) (E_a : Exa Z h0 a "com/example/dunlin/dunlin/IntList") (g_a : n0 ≤ a) (g_b : n0 ≤ b) (ne_a_b : a ≠ b) (hn0 : ¬ n < (0 : Int32)) (hn1 : n < (16 : Int32)) (hle : vs.length = 16) :
    Ct l Z (⟨"com/example/dunlin/dunlin/IntList", "add", "(I)V"⟩ : MethodName) prog_10_method_4_code 2 none [] ({ frames := 0, cells := 0, slots := 0, locals := 0 } : Room) #[(.ref a), (.int x)] h0 (Q_add Z a b ka n vs x h0 n0) := by
  refine own_body (plainFor_of_name pn_2) (fun m => ef_add m a x) ?_
  intro p e s m below meth c T0 hx hby hml hZ hown hnm hret hlk X0 e0
  have N0 := Fr.nil n0
  refine g_aloadN X0 hx (hb hby d_prog_10_m_4_0) rfl rfl rfl ?_
  refine g_getF X0 hx hZ hown (host := "") (Or.inl (hw _ (List.mem_of_getElem? (i := 18) rfl))) Via.refl e0 F_m_nSize_a (hb hby d_prog_10_m_4_1) rfl fun T1 X1 e1 => ?_
  refine g_aloadN X1 hx (hb hby d_prog_10_m_4_4) rfl rfl rfl ?_
  refine g_getF X1 hx hZ hown (host := "") (Or.inl (hw _ (List.mem_of_getElem? (i := 11) rfl))) Via.refl e1 F_m_aValues_a (hb hby d_prog_10_m_4_5) rfl fun T2 X2 e2 => ?_
  refine g_len X2 hx hZ e2 V_b (hb hby d_prog_10_m_4_8) rfl ?_
  have hc9 : ¬ n = (16 : Int32) := (fun q => absurd hn1 (by rw [q]; decide))
  refine g_icmpY X2 hx (q := 30) (hb hby d_prog_10_m_4_9) (XT.ii_ne_t hc9) (by decide) (by decide) ?_
  refine g_aloadN X2 hx (hb hby d_prog_10_m_4_30) rfl rfl rfl ?_
  refine g_getF X2 hx hZ hown (host := "") (Or.inl (hw _ (List.mem_of_getElem? (i := 11) rfl))) Via.refl e2 F_m_aValues_a (hb hby d_prog_10_m_4_31) rfl fun T3 X3 e3 => ?_
  refine g_aloadN X3 hx (hb hby d_prog_10_m_4_34) rfl rfl rfl ?_
  refine g_dup X3 hx (hb hby d_prog_10_m_4_35) rfl rfl ?_
  refine g_getF X3 hx hZ hown (host := "") (Or.inl (hw _ (List.mem_of_getElem? (i := 18) rfl))) Via.refl e3 F_m_nSize_a (hb hby d_prog_10_m_4_36) rfl fun T4 X4 e4 => ?_
  refine g_dup_x1 X4 hx (hb hby d_prog_10_m_4_39) rfl rfl rfl ?_
  refine g_iconst X4 hx (r := (1 : Int32)) (hb hby d_prog_10_m_4_40) rfl rfl ?_
  refine g_iadd X4 hx (hb hby d_prog_10_m_4_41) rfl rfl ?_
  refine g_putF X4 hx hZ hown (host := "") (Or.inl (hw _ (List.mem_of_getElem? (i := 18) rfl))) Via.refl e4 F_m_nSize_a E_a (Or.inl (hw _ (List.mem_of_getElem? (i := 19) rfl))) (hw _ (List.mem_of_getElem? (i := 2) rfl)) (ty := .int) (by decide) rfl rfl (hb hby d_prog_10_m_4_42) rfl fun T5 h5 X5 e5 W5 F5 => ?_
  have kk5 : Keep h0 h5 [a, b] := (Keep.refl h0 [a, b]).wr W5 (Or.inl (by simp))
  have N5 := Fr.snoc X5 N0 g_a
  have Z5 : n0 ≤ h5.size := by rw [W5.size]; exact Z0
  refine g_iloadN X5 hx (hb hby d_prog_10_m_4_45) rfl rfl ?_
  have f6 : Arv Z h5 b ka .int (16 : Int32) vs (.int (0 : Int32)) := (V_b.other W5 (Ne.symm ne_a_b))
  refine g_iastore X5 hx hZ e5 f6 ⟨hn0, hn1⟩ (by rw [hle]; exact own_nat hn0 hn1) (hb hby d_prog_10_m_4_46) rfl fun T7 h7 X7 e7 W7 V7 => ?_
  have Vn7 : Arv Z h7 b ka .int (16 : Int32) (List.set vs (n).toNatClampNeg (.int x)) (.int (0 : Int32)) := V7
  have kk7 : Keep h0 h7 [a, b] := kk5.wr W7 (Or.inl (by simp))
  have N7 := Fr.snoc X7 N5 g_b
  have Z7 : n0 ≤ h7.size := by rw [W7.size]; exact Z5
  have f8 : Exa Z h7 a "com/example/dunlin/dunlin/IntList" := ((E_a.wr W5).wr W7)
  have f9 : Fld Z h7 a "com/example/dunlin/dunlin/IntList" "m_aValues" "[I" (.ref b) := ((F_m_aValues_a.other W5 (Or.inr (slot_ne (Or.inl (hw _ (List.mem_of_getElem? (i := 12) rfl))) (Or.inl (hw _ (List.mem_of_getElem? (i := 19) rfl))) (by decide) (t := (.array .int)) (t' := .int) (by decide) (by decide)))).other W7 (Or.inl ne_a_b))
  have f10 : Fld Z h7 a "com/example/dunlin/dunlin/IntList" "m_nSize" "I" (.int (n + (1 : Int32))) := (F5.other W7 (Or.inl ne_a_b))
  exact g_ret X7 hx hret hlk (hb hby d_prog_10_m_4_47) (by decide) (by decide) (by rw [e7]; exact ⟨rfl, N7, kk7, f8, f9, f10, Vn7⟩)
def Q_get (Z : State) (a : Addr) (b : Addr) (ka : ClassId) (n : Int32) (vs : List Value) (i : Int32) (r : Int32) (h0 : Heap) (n0 : Nat) (v : Option Value) (h : Heap) (L : List Loc) : Prop := v = some (.int r) ∧ Fr n0 L ∧ h = h0
theorem ef_get (m : MethodId) (x0 : Addr) (x1 : Int32) : entryFrame m #[(.ref x0), (.int x1)] 2 = mkF m 0 #[.val (.ref x0), .val (.int x1)] [] := by first | (simp [entryFrame, mkF, argsToLocals, Value.category]; done) | rfl
set_option maxRecDepth 65536 in
set_option maxHeartbeats 40000000 in
theorem rm_get (l : Launch) (Z : State) (a0 : Array Value) (hw : ∀ d ∈ tables_1, d.before a0 Z = true) (a : Addr) (b : Addr) (ka : ClassId) (n : Int32) (vs : List Value) (i : Int32) (r : Int32) (h0 : Heap) (n0 : Nat) (Z0 : n0 ≤ h0.size) (F_m_nSize_a : Fld Z h0 a "com/example/dunlin/dunlin/IntList" "m_nSize" "I" (.int n)) (F_m_aValues_a : Fld Z h0 a "com/example/dunlin/dunlin/IntList" "m_aValues" "[I" (.ref b)) (V_b : Arv Z h0 b ka .int (16 : Int32) vs (.int (0 : Int32))) (hi0 : ¬ i < (0 : Int32)) (hi1 : i < n) (hi2 : i < (16 : Int32)) (hvr : vs.getD i.toNatClampNeg (.int (0 : Int32)) = .int r) :
    Ct l Z (⟨"com/example/dunlin/dunlin/IntList", "get", "(I)I"⟩ : MethodName) prog_10_method_3_code 2 (some .int) [] ({ frames := 2, cells := 0, slots := 0, locals := 27 } : Room) #[(.ref a), (.int i)] h0 (Q_get Z a b ka n vs i r h0 n0) := by
  refine own_body (plainFor_of_name pn_2) (fun m => ef_get m a i) ?_
  intro p e s m below meth c T0 hx hby hml hZ hown hnm hret hlk X0 e0
  have N0 := Fr.nil n0
  refine g_iloadN X0 hx (hb hby d_prog_10_m_3_0) rfl rfl ?_
  refine g_aloadN X0 hx (hb hby d_prog_10_m_3_1) rfl rfl rfl ?_
  refine g_getF X0 hx hZ hown (host := "") (Or.inl (hw _ (List.mem_of_getElem? (i := 18) rfl))) Via.refl e0 F_m_nSize_a (hb hby d_prog_10_m_3_2) rfl fun T1 X1 e1 => ?_
  refine g_static X1 hx hZ hown (hw _ (List.mem_of_getElem? (i := 25) rfl)) (hw _ (List.mem_of_getElem? (i := 26) rfl)) (hw _ (List.mem_of_getElem? (i := 27) rfl)) (hw _ (List.mem_of_getElem? (i := 28) rfl)) (by decide) (rm_oci l Z a0 hw i n h0 n0 Z0 hi0 hi1) (by rw [hml]; rfl) e1 [(.int i), (.int n)] rfl rfl (W := 0) (Nat.le_of_eq rfl) (by decide) (by decide) (by decide) (by decide) (lenOf pd_1 rfl) (hb hby d_prog_10_m_3_5) rfl fun v2 T2 L2 X2 hQ2 => ?_
  obtain ⟨rfl, Nq2, eh2⟩ := hQ2
  have N2 := Fr.app N0 Nq2
  show Ga _ _ _ _ _ _ _ _ _ _ _ [(.int i)]
  refine g_pop X2 hx (hb hby d_prog_10_m_3_8) rfl rfl ?_
  refine g_aloadN X2 hx (hb hby d_prog_10_m_3_9) rfl rfl rfl ?_
  refine g_getF X2 hx hZ hown (host := "") (Or.inl (hw _ (List.mem_of_getElem? (i := 11) rfl))) Via.refl eh2 F_m_aValues_a (hb hby d_prog_10_m_3_10) rfl fun T3 X3 e3 => ?_
  refine g_iloadN X3 hx (hb hby d_prog_10_m_3_13) rfl rfl ?_
  refine g_iaload X3 hx hZ e3 V_b (v := (.int r)) ⟨hi0, hi2⟩ hvr (hb hby d_prog_10_m_3_14) rfl ?_
  exact g_retI X3 hx hret hlk (hb hby d_prog_10_m_3_15) (by decide) (by decide) (by rw [e3]; exact ⟨rfl, N2, rfl⟩)
def Q_set (Z : State) (a : Addr) (b : Addr) (ka : ClassId) (n : Int32) (vs : List Value) (i : Int32) (x : Int32) (h0 : Heap) (n0 : Nat) (v : Option Value) (h : Heap) (L : List Loc) : Prop := v = none ∧ Fr n0 L ∧ Keep h0 h [b] ∧ Arv Z h b ka .int (16 : Int32) (List.set vs (i).toNatClampNeg (.int x)) (.int (0 : Int32))
theorem ef_set (m : MethodId) (x0 : Addr) (x1 : Int32) (x2 : Int32) : entryFrame m #[(.ref x0), (.int x1), (.int x2)] 3 = mkF m 0 #[.val (.ref x0), .val (.int x1), .val (.int x2)] [] := by first | (simp [entryFrame, mkF, argsToLocals, Value.category]; done) | rfl
set_option maxRecDepth 65536 in
set_option maxHeartbeats 40000000 in
theorem rm_set (l : Launch) (Z : State) (a0 : Array Value) (hw : ∀ d ∈ tables_1, d.before a0 Z = true) (a : Addr) (b : Addr) (ka : ClassId) (n : Int32) (vs : List Value) (i : Int32) (x : Int32) (h0 : Heap) (n0 : Nat) (Z0 : n0 ≤ h0.size) (F_m_nSize_a : Fld Z h0 a "com/example/dunlin/dunlin/IntList" "m_nSize" "I" (.int n)) (F_m_aValues_a : Fld Z h0 a "com/example/dunlin/dunlin/IntList" "m_aValues" "[I" (.ref b)) (V_b : Arv Z h0 b ka .int (16 : Int32) vs (.int (0 : Int32))) (g_b : n0 ≤ b) (hi0 : ¬ i < (0 : Int32)) (hi1 : i < n) (hi2 : i < (16 : Int32)) (hle : vs.length = 16) :
    Ct l Z (⟨"com/example/dunlin/dunlin/IntList", "set", "(II)V"⟩ : MethodName) prog_10_method_5_code 3 none [] ({ frames := 2, cells := 0, slots := 0, locals := 27 } : Room) #[(.ref a), (.int i), (.int x)] h0 (Q_set Z a b ka n vs i x h0 n0) := by
  refine own_body (plainFor_of_name pn_2) (fun m => ef_set m a i x) ?_
  intro p e s m below meth c T0 hx hby hml hZ hown hnm hret hlk X0 e0
  have N0 := Fr.nil n0
  refine g_iloadN X0 hx (hb hby d_prog_10_m_5_0) rfl rfl ?_
  refine g_aloadN X0 hx (hb hby d_prog_10_m_5_1) rfl rfl rfl ?_
  refine g_getF X0 hx hZ hown (host := "") (Or.inl (hw _ (List.mem_of_getElem? (i := 18) rfl))) Via.refl e0 F_m_nSize_a (hb hby d_prog_10_m_5_2) rfl fun T1 X1 e1 => ?_
  refine g_static X1 hx hZ hown (hw _ (List.mem_of_getElem? (i := 25) rfl)) (hw _ (List.mem_of_getElem? (i := 26) rfl)) (hw _ (List.mem_of_getElem? (i := 27) rfl)) (hw _ (List.mem_of_getElem? (i := 28) rfl)) (by decide) (rm_oci l Z a0 hw i n h0 n0 Z0 hi0 hi1) (by rw [hml]; rfl) e1 [(.int i), (.int n)] rfl rfl (W := 0) (Nat.le_of_eq rfl) (by decide) (by decide) (by decide) (by decide) (lenOf pd_1 rfl) (hb hby d_prog_10_m_5_5) rfl fun v2 T2 L2 X2 hQ2 => ?_
  obtain ⟨rfl, Nq2, eh2⟩ := hQ2
  have N2 := Fr.app N0 Nq2
  show Ga _ _ _ _ _ _ _ _ _ _ _ [(.int i)]
  refine g_pop X2 hx (hb hby d_prog_10_m_5_8) rfl rfl ?_
  refine g_aloadN X2 hx (hb hby d_prog_10_m_5_9) rfl rfl rfl ?_
  refine g_getF X2 hx hZ hown (host := "") (Or.inl (hw _ (List.mem_of_getElem? (i := 11) rfl))) Via.refl eh2 F_m_aValues_a (hb hby d_prog_10_m_5_10) rfl fun T3 X3 e3 => ?_
  refine g_iloadN X3 hx (hb hby d_prog_10_m_5_13) rfl rfl ?_
  refine g_iloadN X3 hx (hb hby d_prog_10_m_5_14) rfl rfl ?_
  refine g_iastore X3 hx hZ e3 V_b ⟨hi0, hi2⟩ (by rw [hle]; exact own_nat hi0 hi2) (hb hby d_prog_10_m_5_15) rfl fun T4 h4 X4 e4 W4 V4 => ?_
  have Vn4 : Arv Z h4 b ka .int (16 : Int32) (List.set vs (i).toNatClampNeg (.int x)) (.int (0 : Int32)) := V4
  have kk4 : Keep h0 h4 [b] := (Keep.refl h0 [b]).wr W4 (Or.inl (by simp))
  have N4 := Fr.snoc X4 N2 g_b
  have Z4 : n0 ≤ h4.size := by rw [W4.size]; exact Z0
  exact g_ret X4 hx hret hlk (hb hby d_prog_10_m_5_16) (by decide) (by decide) (by rw [e4]; exact ⟨rfl, N4, kk4, Vn4⟩)
def Q_size (Z : State) (a : Addr) (x : Int32) (h0 : Heap) (n0 : Nat) (v : Option Value) (h : Heap) (L : List Loc) : Prop := v = some (.int x) ∧ Fr n0 L ∧ h = h0
theorem ef_size (m : MethodId) (x0 : Addr) : entryFrame m #[(.ref x0)] 1 = mkF m 0 #[.val (.ref x0)] [] := by first | (simp [entryFrame, mkF, argsToLocals, Value.category]; done) | rfl
set_option maxRecDepth 65536 in
set_option maxHeartbeats 40000000 in
theorem rm_size (l : Launch) (Z : State) (a0 : Array Value) (hw : ∀ d ∈ tables_1, d.before a0 Z = true) (a : Addr) (x : Int32) (h0 : Heap) (n0 : Nat) (Z0 : n0 ≤ h0.size) (F_m_nSize_a : Fld Z h0 a "com/example/dunlin/dunlin/IntList" "m_nSize" "I" (.int x)) :
    Ct l Z (⟨"com/example/dunlin/dunlin/IntList", "size", "()I"⟩ : MethodName) prog_10_method_2_code 1 (some .int) [] ({ frames := 0, cells := 0, slots := 0, locals := 0 } : Room) #[(.ref a)] h0 (Q_size Z a x h0 n0) := by
  refine own_body (plainFor_of_name pn_2) (fun m => ef_size m a) ?_
  intro p e s m below meth c T0 hx hby hml hZ hown hnm hret hlk X0 e0
  have N0 := Fr.nil n0
  refine g_aloadN X0 hx (hb hby d_prog_10_m_2_0) rfl rfl rfl ?_
  refine g_getF X0 hx hZ hown (host := "") (Or.inl (hw _ (List.mem_of_getElem? (i := 18) rfl))) Via.refl e0 F_m_nSize_a (hb hby d_prog_10_m_2_1) rfl fun T1 X1 e1 => ?_
  exact g_retI X1 hx hret hlk (hb hby d_prog_10_m_2_4) (by decide) (by decide) (by rw [e1]; exact ⟨rfl, N0, rfl⟩)
def Q_law (Z : State) (p0 : Int32) (p1 : Int32) (p2 : Int32) (p3 : Int32) (p4 : Int32) (p5 : Int32) (h0 : Heap) (n0 : Nat) (v : Option Value) (h : Heap) (L : List Loc) : Prop := v = some (.int 1) ∧ Fr n0 L
theorem ef_law (m : MethodId) (x0 : Int32) (x1 : Int32) (x2 : Int32) (x3 : Int32) (x4 : Int32) (x5 : Int32) : entryFrame m #[(.int x0), (.int x1), (.int x2), (.int x3), (.int x4), (.int x5)] maxLocals = mkF m 0 #[.val (.int x0), .val (.int x1), .val (.int x2), .val (.int x3), .val (.int x4), .val (.int x5), .unset, .unset, .unset, .unset] [] := by first | (simp [entryFrame, mkF, argsToLocals, Value.category, maxLocals]; done) | rfl
set_option maxRecDepth 65536 in
set_option maxHeartbeats 40000000 in
theorem rm_law (l : Launch) (Z : State) (a0 : Array Value) (hw : ∀ d ∈ tables_1, d.before a0 Z = true) (ws : List Jvm.Cond) (p0 : Int32) (p1 : Int32) (p2 : Int32) (p3 : Int32) (p4 : Int32) (p5 : Int32) (h0 : Heap) (n0 : Nat) (Z0 : n0 ≤ h0.size) :
    Ct l Z x code maxLocals ret ws room_1 #[(.int p0), (.int p1), (.int p2), (.int p3), (.int p4), (.int p5)] h0 (Q_law Z p0 p1 p2 p3 p4 p5 h0 n0) := by
  refine own_body (plainFor_of_name pn_3) (fun m => ef_law m p0 p1 p2 p3 p4 p5) ?_
  intro p e s m below meth c T0 hx hby hml hZ hown hnm hret hlk X0 e0
  have N0 := Fr.nil n0
  refine g_iconst X0 hx (r := (1 : Int32)) (hb hby at_0) rfl rfl ?_
  refine g_iload X0 hx (hb hby at_1) rfl rfl ?_
  refine g_ldcI X0 hx hZ hown (hw _ (List.mem_of_getElem? (i := 0) rfl)) (hb hby at_3) rfl ?_
  refine g_iand X0 hx (hb hby at_5) rfl rfl ?_
  refine g_iconst X0 hx (r := (3 : Int32)) (hb hby at_6) rfl rfl ?_
  obtain ⟨v7, hv7⟩ : ∃ r, ((p5 &&& (2147483647 : Int32)) % (3 : Int32)) = r := ⟨_, rfl⟩
  refine g_irem X0 hx (hb hby at_7) rfl (by decide) hv7 ?_
  have hcs_v7 : v7 = (0 : Int32) ∨ v7 = (1 : Int32) ∨ v7 = (2 : Int32) := own_rem3 (own_mx rfl) hv7
  rcases hcs_v7 with rfl | rfl | rfl
  · skip
    refine g_iadd X0 hx (r := (1 : Int32)) (hb hby at_8) rfl rfl ?_
    refine g_istore X0 hx (Ls' := #[.val (.int p0), .val (.int p1), .val (.int p2), .val (.int p3), .val (.int p4), .val (.int p5), .val (.int (1 : Int32)), .unset, .unset, .unset]) (hb hby at_9) rfl rfl ?_
    refine g_iload X0 hx (hb hby at_11) rfl rfl ?_
    refine g_ldcI X0 hx hZ hown (hw _ (List.mem_of_getElem? (i := 0) rfl)) (hb hby at_13) rfl ?_
    refine g_iand X0 hx (hb hby at_15) rfl rfl ?_
    refine g_iload X0 hx (hb hby at_16) rfl rfl ?_
    obtain ⟨v18, hv18⟩ : ∃ r, ((p4 &&& (2147483647 : Int32)) % (1 : Int32)) = r := ⟨_, rfl⟩
    refine g_irem X0 hx (hb hby at_18) rfl (by decide) hv18 ?_
    refine g_istore X0 hx (Ls' := #[.val (.int p0), .val (.int p1), .val (.int p2), .val (.int p3), .val (.int p4), .val (.int p5), .val (.int (1 : Int32)), .val (.int v18), .unset, .unset]) (hb hby at_19) rfl rfl ?_
    have hcs_v18 : v18 = (0 : Int32) := own_rem1 (own_mx rfl) hv18
    obtain rfl := hcs_v18
    refine g_new X0 hx hZ hown (hw _ (List.mem_of_getElem? (i := 1) rfl)) (hw _ (List.mem_of_getElem? (i := 2) rfl)) (hw _ (List.mem_of_getElem? (i := 3) rfl)) e0 (hb hby at_21) rfl (by decide) (by decide) fun T1 h1 b1 X1 e1 q1 E1 A1 D1 => ?_
    have g_b1 : n0 ≤ b1 := Nat.le_trans Z0 (Nat.le_of_eq q1.symm)
    have Z1 : n0 ≤ h1.size := Nat.le_trans Z0 E1.1
    have F1_m_aValues : Fld Z h1 b1 "com/example/dunlin/dunlin/IntList" "m_aValues" "[I" .null := D1 (Or.inl (hw _ (List.mem_of_getElem? (i := 12) rfl))) (ty := (.array .int)) (by decide)
    have F1_m_nSize : Fld Z h1 b1 "com/example/dunlin/dunlin/IntList" "m_nSize" "I" (.int (0 : Int32)) := D1 (Or.inl (hw _ (List.mem_of_getElem? (i := 19) rfl))) (ty := .int) (by decide)
    refine g_dup X1 hx (hb hby at_24) rfl rfl ?_
    refine g_special X1 hx hZ hown rfl (hw _ (List.mem_of_getElem? (i := 4) rfl)) (hw _ (List.mem_of_getElem? (i := 5) rfl)) (hw _ (List.mem_of_getElem? (i := 3) rfl)) (hw _ (List.mem_of_getElem? (i := 6) rfl)) (by decide) (a := b1) (rm_ini l Z a0 hw b1 h1 n0 Z1 F1_m_aValues F1_m_nSize A1 g_b1) (by rw [hml]; rfl) e1 [] rfl rfl (W := 1) (Nat.le_of_eq rfl) (by decide) (by decide) (by decide) (by decide) (lenOf pd_2 rfl) (hb hby at_25) rfl fun v2 T2 L2 X2 hQ2 => ?_
    obtain ⟨b_2, ka_2, rfl, Nq2, kc2, p2_0, p2_1, p2_2, p2_3, p2_4, p2_5⟩ := hQ2
    have N2 := Fr.app N0 Nq2
    have ne_b1_b_2 : b1 ≠ b_2 := own_neK A1.lt p2_1
    have g_b_2 : n0 ≤ b_2 := Nat.le_trans Z1 p2_1
    have Z2 : n0 ≤ T2.heap.size := Nat.le_trans Z1 kc2.1
    have pv2_5 : Arv Z T2.heap b_2 ka_2 .int (16 : Int32) [(.int (0 : Int32)), (.int (0 : Int32)), (.int (0 : Int32)), (.int (0 : Int32)), (.int (0 : Int32)), (.int (0 : Int32)), (.int (0 : Int32)), (.int (0 : Int32)), (.int (0 : Int32)), (.int (0 : Int32)), (.int (0 : Int32)), (.int (0 : Int32)), (.int (0 : Int32)), (.int (0 : Int32)), (.int (0 : Int32)), (.int (0 : Int32))] (.int (0 : Int32)) := p2_5
    show Ga _ _ _ _ _ _ _ _ _ _ _ [(.ref b1)]
    refine g_astore X2 hx (Ls' := #[.val (.int p0), .val (.int p1), .val (.int p2), .val (.int p3), .val (.int p4), .val (.int p5), .val (.int (1 : Int32)), .val (.int (0 : Int32)), .val (.ref b1), .unset]) (hb hby at_28) rfl rfl rfl ?_
    refine g_aload X2 hx (hb hby at_30) rfl rfl rfl ?_
    refine g_iloadN X2 hx (hb hby at_32) rfl rfl ?_
    refine g_virtual X2 hx hZ hown (hw _ (List.mem_of_getElem? (i := 13) rfl)) (hw _ (List.mem_of_getElem? (i := 14) rfl)) (notFace_of_selects (args := #[]) (mvT hZ (hw _ (List.mem_of_getElem? (i := 16) rfl)))) (hw _ (List.mem_of_getElem? (i := 16) rfl)) (hw _ (List.mem_of_getElem? (i := 15) rfl)) (hw _ (List.mem_of_getElem? (i := 3) rfl)) (hw _ (List.mem_of_getElem? (i := 17) rfl)) (by decide) (a := b1) p2_0 (rm_add l Z a0 hw b1 b_2 ka_2 (0 : Int32) [(.int (0 : Int32)), (.int (0 : Int32)), (.int (0 : Int32)), (.int (0 : Int32)), (.int (0 : Int32)), (.int (0 : Int32)), (.int (0 : Int32)), (.int (0 : Int32)), (.int (0 : Int32)), (.int (0 : Int32)), (.int (0 : Int32)), (.int (0 : Int32)), (.int (0 : Int32)), (.int (0 : Int32)), (.int (0 : Int32)), (.int (0 : Int32))] p0 T2.heap n0 Z2 p2_4 p2_3 pv2_5 p2_0 g_b1 g_b_2 p2_2 (by first | decide | assumption | rfl) (by first | decide | assumption | rfl) (by first | decide | assumption | rfl)) (by rw [hml]; rfl) rfl [(.int p0)] rfl rfl (W := 0) (Nat.le_of_eq rfl) (by decide) (by decide) (by decide) (by decide) (lenOf pd_3 rfl) (hb hby at_33) rfl fun v3 T3 L3 X3 hQ3 => ?_
    obtain ⟨rfl, Nq3, kc3, p3_0, p3_1, p3_2, p3_3⟩ := hQ3
    have N3 := Fr.app N2 Nq3
    have Z3 : n0 ≤ T3.heap.size := Nat.le_trans Z2 kc3.1
    have pv3_2 : Fld Z T3.heap b1 "com/example/dunlin/dunlin/IntList" "m_nSize" "I" (.int (1 : Int32)) := p3_2
    have pv3_3 : Arv Z T3.heap b_2 ka_2 .int (16 : Int32) [(.int p0), (.int (0 : Int32)), (.int (0 : Int32)), (.int (0 : Int32)), (.int (0 : Int32)), (.int (0 : Int32)), (.int (0 : Int32)), (.int (0 : Int32)), (.int (0 : Int32)), (.int (0 : Int32)), (.int (0 : Int32)), (.int (0 : Int32)), (.int (0 : Int32)), (.int (0 : Int32)), (.int (0 : Int32)), (.int (0 : Int32))] (.int (0 : Int32)) := p3_3
    show Ga _ _ _ _ _ _ _ _ _ _ _ []
    refine g_iload X3 hx (hb hby at_36) rfl rfl ?_
    refine g_iconst X3 hx (r := (2 : Int32)) (hb hby at_38) rfl rfl ?_
    refine g_icmpY X3 hx (q := 48) (hb hby at_39) (XT.ii_lt_t (by decide : (1 : Int32) < (2 : Int32))) (by decide) (by decide) ?_
    refine g_iload X3 hx (hb hby at_48) rfl rfl ?_
    refine g_iconst X3 hx (r := (3 : Int32)) (hb hby at_50) rfl rfl ?_
    refine g_icmpY X3 hx (q := 60) (hb hby at_51) (XT.ii_lt_t (by decide : (1 : Int32) < (3 : Int32))) (by decide) (by decide) ?_
    refine g_aload X3 hx (hb hby at_60) rfl rfl rfl ?_
    refine g_iload X3 hx (hb hby at_62) rfl rfl ?_
    refine g_iloadN X3 hx (hb hby at_64) rfl rfl ?_
    refine g_virtual X3 hx hZ hown (hw _ (List.mem_of_getElem? (i := 20) rfl)) (hw _ (List.mem_of_getElem? (i := 21) rfl)) (notFace_of_selects (args := #[]) (mvT hZ (hw _ (List.mem_of_getElem? (i := 23) rfl)))) (hw _ (List.mem_of_getElem? (i := 23) rfl)) (hw _ (List.mem_of_getElem? (i := 22) rfl)) (hw _ (List.mem_of_getElem? (i := 3) rfl)) (hw _ (List.mem_of_getElem? (i := 24) rfl)) (by decide) (a := b1) p3_0 (rm_set l Z a0 hw b1 b_2 ka_2 (1 : Int32) [(.int p0), (.int (0 : Int32)), (.int (0 : Int32)), (.int (0 : Int32)), (.int (0 : Int32)), (.int (0 : Int32)), (.int (0 : Int32)), (.int (0 : Int32)), (.int (0 : Int32)), (.int (0 : Int32)), (.int (0 : Int32)), (.int (0 : Int32)), (.int (0 : Int32)), (.int (0 : Int32)), (.int (0 : Int32)), (.int (0 : Int32))] (0 : Int32) p3 T3.heap n0 Z3 pv3_2 p3_1 pv3_3 g_b_2 (by first | decide | assumption | rfl) (by first | decide | assumption | rfl) (by first | decide | assumption | rfl) (by first | decide | assumption | rfl)) (by rw [hml]; rfl) rfl [(.int (0 : Int32)), (.int p3)] rfl rfl (W := 0) (Nat.le_of_eq rfl) (by decide) (by decide) (by decide) (by decide) (lenOf pd_4 rfl) (hb hby at_65) rfl fun v4 T4 L4 X4 hQ4 => ?_
    obtain ⟨rfl, Nq4, kc4, p4_0⟩ := hQ4
    have N4 := Fr.app N3 Nq4
    have Z4 : n0 ≤ T4.heap.size := Nat.le_trans Z3 kc4.1
    have pv4_0 : Arv Z T4.heap b_2 ka_2 .int (16 : Int32) [(.int p3), (.int (0 : Int32)), (.int (0 : Int32)), (.int (0 : Int32)), (.int (0 : Int32)), (.int (0 : Int32)), (.int (0 : Int32)), (.int (0 : Int32)), (.int (0 : Int32)), (.int (0 : Int32)), (.int (0 : Int32)), (.int (0 : Int32)), (.int (0 : Int32)), (.int (0 : Int32)), (.int (0 : Int32)), (.int (0 : Int32))] (.int (0 : Int32)) := p4_0
    show Ga _ _ _ _ _ _ _ _ _ _ _ []
    refine g_aload X4 hx (hb hby at_68) rfl rfl rfl ?_
    have f6 : Fld Z T4.heap b1 "com/example/dunlin/dunlin/IntList" "m_nSize" "I" (.int (1 : Int32)) := (pv3_2.keep kc4 (ninS p2_2 nin0))
    have f7 : Exa Z T4.heap b1 "com/example/dunlin/dunlin/IntList" := (p3_0.keep kc4)
    refine g_virtual X4 hx hZ hown (hw _ (List.mem_of_getElem? (i := 33) rfl)) (hw _ (List.mem_of_getElem? (i := 34) rfl)) (notFace_of_selects (args := #[]) (mvT hZ (hw _ (List.mem_of_getElem? (i := 36) rfl)))) (hw _ (List.mem_of_getElem? (i := 36) rfl)) (hw _ (List.mem_of_getElem? (i := 35) rfl)) (hw _ (List.mem_of_getElem? (i := 3) rfl)) (hw _ (List.mem_of_getElem? (i := 37) rfl)) (by decide) (a := b1) f7 (rm_size l Z a0 hw b1 (1 : Int32) T4.heap n0 Z4 f6) (by rw [hml]; rfl) rfl [] rfl rfl (W := 0) (Nat.le_of_eq rfl) (by decide) (by decide) (by decide) (by decide) (lenOf pd_5 rfl) (hb hby at_70) rfl fun v5 T5 L5 X5 hQ5 => ?_
    obtain ⟨rfl, Nq5, eh5⟩ := hQ5
    have N5 := Fr.app N4 Nq5
    show Ga _ _ _ _ _ _ _ _ _ _ _ [(.int (1 : Int32))]
    refine g_iload X5 hx (hb hby at_73) rfl rfl ?_
    refine g_icmpY X5 hx (q := 80) (hb hby at_75) (XT.ii_eq_t (by decide : (1 : Int32) = (1 : Int32))) (by decide) (by decide) ?_
    refine g_aload X5 hx (hb hby at_80) rfl rfl rfl ?_
    refine g_iconst X5 hx (r := (0 : Int32)) (hb hby at_82) rfl rfl ?_
    have f9 : Fld Z T4.heap b1 "com/example/dunlin/dunlin/IntList" "m_aValues" "[I" (.ref b_2) := (p3_1.keep kc4 (ninS p2_2 nin0))
    refine g_virtual X5 hx hZ hown (hw _ (List.mem_of_getElem? (i := 38) rfl)) (hw _ (List.mem_of_getElem? (i := 39) rfl)) (notFace_of_selects (args := #[]) (mvT hZ (hw _ (List.mem_of_getElem? (i := 41) rfl)))) (hw _ (List.mem_of_getElem? (i := 41) rfl)) (hw _ (List.mem_of_getElem? (i := 40) rfl)) (hw _ (List.mem_of_getElem? (i := 3) rfl)) (hw _ (List.mem_of_getElem? (i := 42) rfl)) (by decide) (a := b1) f7 (rm_get l Z a0 hw b1 b_2 ka_2 (1 : Int32) [(.int p3), (.int (0 : Int32)), (.int (0 : Int32)), (.int (0 : Int32)), (.int (0 : Int32)), (.int (0 : Int32)), (.int (0 : Int32)), (.int (0 : Int32)), (.int (0 : Int32)), (.int (0 : Int32)), (.int (0 : Int32)), (.int (0 : Int32)), (.int (0 : Int32)), (.int (0 : Int32)), (.int (0 : Int32)), (.int (0 : Int32))] (0 : Int32) p3 T4.heap n0 Z4 f6 f9 pv4_0 (by first | decide | assumption | rfl) (by first | decide | assumption | rfl) (by first | decide | assumption | rfl) (by first | decide | assumption | rfl)) (by rw [hml]; rfl) eh5 [(.int (0 : Int32))] rfl rfl (W := 0) (Nat.le_of_eq rfl) (by decide) (by decide) (by decide) (by decide) (lenOf pd_6 rfl) (hb hby at_83) rfl fun v8 T8 L8 X8 hQ8 => ?_
    obtain ⟨rfl, Nq8, eh8⟩ := hQ8
    have N8 := Fr.app N5 Nq8
    show Ga _ _ _ _ _ _ _ _ _ _ _ [(.int p3)]
    refine g_iload X8 hx (hb hby at_86) rfl rfl ?_
    refine g_ifN X8 hx (hb hby at_88) rfl (XT.i0_ne_f (by decide : (0 : Int32) = (0 : Int32))) ?_
    refine g_iloadN X8 hx (hb hby at_91) rfl rfl ?_
    refine g_goto X8 hx (q := 96) (hb hby at_92) (by decide) (by decide) ?_
    refine g_icmpN X8 hx (hb hby at_96) rfl (XT.ii_ne_f rfl) ?_
    refine g_iconst X8 hx (r := (1 : Int32)) (hb hby at_99) rfl rfl ?_
    refine g_goto X8 hx (q := 104) (hb hby at_100) (by decide) (by decide) ?_
    refine g_istore X8 hx (Ls' := #[.val (.int p0), .val (.int p1), .val (.int p2), .val (.int p3), .val (.int p4), .val (.int p5), .val (.int (1 : Int32)), .val (.int (0 : Int32)), .val (.ref b1), .val (.int (1 : Int32))]) (hb hby at_104) rfl rfl ?_
    refine g_iload X8 hx (hb hby at_106) rfl rfl ?_
    refine g_iconst X8 hx (r := (2 : Int32)) (hb hby at_108) rfl rfl ?_
    refine g_icmpY X8 hx (q := 144) (hb hby at_109) (XT.ii_lt_t (by decide : (1 : Int32) < (2 : Int32))) (by decide) (by decide) ?_
    refine g_iload X8 hx (hb hby at_144) rfl rfl ?_
    refine g_iconst X8 hx (r := (3 : Int32)) (hb hby at_146) rfl rfl ?_
    refine g_icmpY X8 hx (q := 182) (hb hby at_147) (XT.ii_lt_t (by decide : (1 : Int32) < (3 : Int32))) (by decide) (by decide) ?_
    refine g_iload X8 hx (hb hby at_182) rfl rfl ?_
    exact g_retN X8 hx (t := .boolean) (r := (1 : Int32)) hret (by simp) hlk (hb hby at_184) rfl (by decide) (by decide) (by rw [eh8]; exact ⟨rfl, N8⟩)
  · skip
    refine g_iadd X0 hx (r := (2 : Int32)) (hb hby at_8) rfl rfl ?_
    refine g_istore X0 hx (Ls' := #[.val (.int p0), .val (.int p1), .val (.int p2), .val (.int p3), .val (.int p4), .val (.int p5), .val (.int (2 : Int32)), .unset, .unset, .unset]) (hb hby at_9) rfl rfl ?_
    refine g_iload X0 hx (hb hby at_11) rfl rfl ?_
    refine g_ldcI X0 hx hZ hown (hw _ (List.mem_of_getElem? (i := 0) rfl)) (hb hby at_13) rfl ?_
    refine g_iand X0 hx (hb hby at_15) rfl rfl ?_
    refine g_iload X0 hx (hb hby at_16) rfl rfl ?_
    obtain ⟨v18, hv18⟩ : ∃ r, ((p4 &&& (2147483647 : Int32)) % (2 : Int32)) = r := ⟨_, rfl⟩
    refine g_irem X0 hx (hb hby at_18) rfl (by decide) hv18 ?_
    refine g_istore X0 hx (Ls' := #[.val (.int p0), .val (.int p1), .val (.int p2), .val (.int p3), .val (.int p4), .val (.int p5), .val (.int (2 : Int32)), .val (.int v18), .unset, .unset]) (hb hby at_19) rfl rfl ?_
    have hcs_v18 : v18 = (0 : Int32) ∨ v18 = (1 : Int32) := own_rem2 (own_mx rfl) hv18
    rcases hcs_v18 with rfl | rfl
    · skip
      refine g_new X0 hx hZ hown (hw _ (List.mem_of_getElem? (i := 1) rfl)) (hw _ (List.mem_of_getElem? (i := 2) rfl)) (hw _ (List.mem_of_getElem? (i := 3) rfl)) e0 (hb hby at_21) rfl (by decide) (by decide) fun T10 h10 b10 X10 e10 q10 E10 A10 D10 => ?_
      have g_b10 : n0 ≤ b10 := Nat.le_trans Z0 (Nat.le_of_eq q10.symm)
      have Z10 : n0 ≤ h10.size := Nat.le_trans Z0 E10.1
      have F10_m_aValues : Fld Z h10 b10 "com/example/dunlin/dunlin/IntList" "m_aValues" "[I" .null := D10 (Or.inl (hw _ (List.mem_of_getElem? (i := 12) rfl))) (ty := (.array .int)) (by decide)
      have F10_m_nSize : Fld Z h10 b10 "com/example/dunlin/dunlin/IntList" "m_nSize" "I" (.int (0 : Int32)) := D10 (Or.inl (hw _ (List.mem_of_getElem? (i := 19) rfl))) (ty := .int) (by decide)
      refine g_dup X10 hx (hb hby at_24) rfl rfl ?_
      refine g_special X10 hx hZ hown rfl (hw _ (List.mem_of_getElem? (i := 4) rfl)) (hw _ (List.mem_of_getElem? (i := 5) rfl)) (hw _ (List.mem_of_getElem? (i := 3) rfl)) (hw _ (List.mem_of_getElem? (i := 6) rfl)) (by decide) (a := b10) (rm_ini l Z a0 hw b10 h10 n0 Z10 F10_m_aValues F10_m_nSize A10 g_b10) (by rw [hml]; rfl) e10 [] rfl rfl (W := 1) (Nat.le_of_eq rfl) (by decide) (by decide) (by decide) (by decide) (lenOf pd_2 rfl) (hb hby at_25) rfl fun v11 T11 L11 X11 hQ11 => ?_
      obtain ⟨b_11, ka_11, rfl, Nq11, kc11, p11_0, p11_1, p11_2, p11_3, p11_4, p11_5⟩ := hQ11
      have N11 := Fr.app N0 Nq11
      have ne_b10_b_11 : b10 ≠ b_11 := own_neK A10.lt p11_1
      have g_b_11 : n0 ≤ b_11 := Nat.le_trans Z10 p11_1
      have Z11 : n0 ≤ T11.heap.size := Nat.le_trans Z10 kc11.1
      have pv11_5 : Arv Z T11.heap b_11 ka_11 .int (16 : Int32) [(.int (0 : Int32)), (.int (0 : Int32)), (.int (0 : Int32)), (.int (0 : Int32)), (.int (0 : Int32)), (.int (0 : Int32)), (.int (0 : Int32)), (.int (0 : Int32)), (.int (0 : Int32)), (.int (0 : Int32)), (.int (0 : Int32)), (.int (0 : Int32)), (.int (0 : Int32)), (.int (0 : Int32)), (.int (0 : Int32)), (.int (0 : Int32))] (.int (0 : Int32)) := p11_5
      show Ga _ _ _ _ _ _ _ _ _ _ _ [(.ref b10)]
      refine g_astore X11 hx (Ls' := #[.val (.int p0), .val (.int p1), .val (.int p2), .val (.int p3), .val (.int p4), .val (.int p5), .val (.int (2 : Int32)), .val (.int (0 : Int32)), .val (.ref b10), .unset]) (hb hby at_28) rfl rfl rfl ?_
      refine g_aload X11 hx (hb hby at_30) rfl rfl rfl ?_
      refine g_iloadN X11 hx (hb hby at_32) rfl rfl ?_
      refine g_virtual X11 hx hZ hown (hw _ (List.mem_of_getElem? (i := 13) rfl)) (hw _ (List.mem_of_getElem? (i := 14) rfl)) (notFace_of_selects (args := #[]) (mvT hZ (hw _ (List.mem_of_getElem? (i := 16) rfl)))) (hw _ (List.mem_of_getElem? (i := 16) rfl)) (hw _ (List.mem_of_getElem? (i := 15) rfl)) (hw _ (List.mem_of_getElem? (i := 3) rfl)) (hw _ (List.mem_of_getElem? (i := 17) rfl)) (by decide) (a := b10) p11_0 (rm_add l Z a0 hw b10 b_11 ka_11 (0 : Int32) [(.int (0 : Int32)), (.int (0 : Int32)), (.int (0 : Int32)), (.int (0 : Int32)), (.int (0 : Int32)), (.int (0 : Int32)), (.int (0 : Int32)), (.int (0 : Int32)), (.int (0 : Int32)), (.int (0 : Int32)), (.int (0 : Int32)), (.int (0 : Int32)), (.int (0 : Int32)), (.int (0 : Int32)), (.int (0 : Int32)), (.int (0 : Int32))] p0 T11.heap n0 Z11 p11_4 p11_3 pv11_5 p11_0 g_b10 g_b_11 p11_2 (by first | decide | assumption | rfl) (by first | decide | assumption | rfl) (by first | decide | assumption | rfl)) (by rw [hml]; rfl) rfl [(.int p0)] rfl rfl (W := 0) (Nat.le_of_eq rfl) (by decide) (by decide) (by decide) (by decide) (lenOf pd_3 rfl) (hb hby at_33) rfl fun v12 T12 L12 X12 hQ12 => ?_
      obtain ⟨rfl, Nq12, kc12, p12_0, p12_1, p12_2, p12_3⟩ := hQ12
      have N12 := Fr.app N11 Nq12
      have Z12 : n0 ≤ T12.heap.size := Nat.le_trans Z11 kc12.1
      have pv12_2 : Fld Z T12.heap b10 "com/example/dunlin/dunlin/IntList" "m_nSize" "I" (.int (1 : Int32)) := p12_2
      have pv12_3 : Arv Z T12.heap b_11 ka_11 .int (16 : Int32) [(.int p0), (.int (0 : Int32)), (.int (0 : Int32)), (.int (0 : Int32)), (.int (0 : Int32)), (.int (0 : Int32)), (.int (0 : Int32)), (.int (0 : Int32)), (.int (0 : Int32)), (.int (0 : Int32)), (.int (0 : Int32)), (.int (0 : Int32)), (.int (0 : Int32)), (.int (0 : Int32)), (.int (0 : Int32)), (.int (0 : Int32))] (.int (0 : Int32)) := p12_3
      show Ga _ _ _ _ _ _ _ _ _ _ _ []
      refine g_iload X12 hx (hb hby at_36) rfl rfl ?_
      refine g_iconst X12 hx (r := (2 : Int32)) (hb hby at_38) rfl rfl ?_
      refine g_icmpN X12 hx (hb hby at_39) rfl (XT.ii_lt_f (by decide : ¬ (2 : Int32) < (2 : Int32))) ?_
      refine g_aload X12 hx (hb hby at_42) rfl rfl rfl ?_
      refine g_iloadN X12 hx (hb hby at_44) rfl rfl ?_
      refine g_virtual X12 hx hZ hown (hw _ (List.mem_of_getElem? (i := 13) rfl)) (hw _ (List.mem_of_getElem? (i := 14) rfl)) (notFace_of_selects (args := #[]) (mvT hZ (hw _ (List.mem_of_getElem? (i := 16) rfl)))) (hw _ (List.mem_of_getElem? (i := 16) rfl)) (hw _ (List.mem_of_getElem? (i := 15) rfl)) (hw _ (List.mem_of_getElem? (i := 3) rfl)) (hw _ (List.mem_of_getElem? (i := 17) rfl)) (by decide) (a := b10) p12_0 (rm_add l Z a0 hw b10 b_11 ka_11 (1 : Int32) [(.int p0), (.int (0 : Int32)), (.int (0 : Int32)), (.int (0 : Int32)), (.int (0 : Int32)), (.int (0 : Int32)), (.int (0 : Int32)), (.int (0 : Int32)), (.int (0 : Int32)), (.int (0 : Int32)), (.int (0 : Int32)), (.int (0 : Int32)), (.int (0 : Int32)), (.int (0 : Int32)), (.int (0 : Int32)), (.int (0 : Int32))] p1 T12.heap n0 Z12 pv12_2 p12_1 pv12_3 p12_0 g_b10 g_b_11 p11_2 (by first | decide | assumption | rfl) (by first | decide | assumption | rfl) (by first | decide | assumption | rfl)) (by rw [hml]; rfl) rfl [(.int p1)] rfl rfl (W := 0) (Nat.le_of_eq rfl) (by decide) (by decide) (by decide) (by decide) (lenOf pd_3 rfl) (hb hby at_45) rfl fun v13 T13 L13 X13 hQ13 => ?_
      obtain ⟨rfl, Nq13, kc13, p13_0, p13_1, p13_2, p13_3⟩ := hQ13
      have N13 := Fr.app N12 Nq13
      have Z13 : n0 ≤ T13.heap.size := Nat.le_trans Z12 kc13.1
      have pv13_2 : Fld Z T13.heap b10 "com/example/dunlin/dunlin/IntList" "m_nSize" "I" (.int (2 : Int32)) := p13_2
      have pv13_3 : Arv Z T13.heap b_11 ka_11 .int (16 : Int32) [(.int p0), (.int p1), (.int (0 : Int32)), (.int (0 : Int32)), (.int (0 : Int32)), (.int (0 : Int32)), (.int (0 : Int32)), (.int (0 : Int32)), (.int (0 : Int32)), (.int (0 : Int32)), (.int (0 : Int32)), (.int (0 : Int32)), (.int (0 : Int32)), (.int (0 : Int32)), (.int (0 : Int32)), (.int (0 : Int32))] (.int (0 : Int32)) := p13_3
      show Ga _ _ _ _ _ _ _ _ _ _ _ []
      refine g_iload X13 hx (hb hby at_48) rfl rfl ?_
      refine g_iconst X13 hx (r := (3 : Int32)) (hb hby at_50) rfl rfl ?_
      refine g_icmpY X13 hx (q := 60) (hb hby at_51) (XT.ii_lt_t (by decide : (2 : Int32) < (3 : Int32))) (by decide) (by decide) ?_
      refine g_aload X13 hx (hb hby at_60) rfl rfl rfl ?_
      refine g_iload X13 hx (hb hby at_62) rfl rfl ?_
      refine g_iloadN X13 hx (hb hby at_64) rfl rfl ?_
      refine g_virtual X13 hx hZ hown (hw _ (List.mem_of_getElem? (i := 20) rfl)) (hw _ (List.mem_of_getElem? (i := 21) rfl)) (notFace_of_selects (args := #[]) (mvT hZ (hw _ (List.mem_of_getElem? (i := 23) rfl)))) (hw _ (List.mem_of_getElem? (i := 23) rfl)) (hw _ (List.mem_of_getElem? (i := 22) rfl)) (hw _ (List.mem_of_getElem? (i := 3) rfl)) (hw _ (List.mem_of_getElem? (i := 24) rfl)) (by decide) (a := b10) p13_0 (rm_set l Z a0 hw b10 b_11 ka_11 (2 : Int32) [(.int p0), (.int p1), (.int (0 : Int32)), (.int (0 : Int32)), (.int (0 : Int32)), (.int (0 : Int32)), (.int (0 : Int32)), (.int (0 : Int32)), (.int (0 : Int32)), (.int (0 : Int32)), (.int (0 : Int32)), (.int (0 : Int32)), (.int (0 : Int32)), (.int (0 : Int32)), (.int (0 : Int32)), (.int (0 : Int32))] (0 : Int32) p3 T13.heap n0 Z13 pv13_2 p13_1 pv13_3 g_b_11 (by first | decide | assumption | rfl) (by first | decide | assumption | rfl) (by first | decide | assumption | rfl) (by first | decide | assumption | rfl)) (by rw [hml]; rfl) rfl [(.int (0 : Int32)), (.int p3)] rfl rfl (W := 0) (Nat.le_of_eq rfl) (by decide) (by decide) (by decide) (by decide) (lenOf pd_4 rfl) (hb hby at_65) rfl fun v14 T14 L14 X14 hQ14 => ?_
      obtain ⟨rfl, Nq14, kc14, p14_0⟩ := hQ14
      have N14 := Fr.app N13 Nq14
      have Z14 : n0 ≤ T14.heap.size := Nat.le_trans Z13 kc14.1
      have pv14_0 : Arv Z T14.heap b_11 ka_11 .int (16 : Int32) [(.int p3), (.int p1), (.int (0 : Int32)), (.int (0 : Int32)), (.int (0 : Int32)), (.int (0 : Int32)), (.int (0 : Int32)), (.int (0 : Int32)), (.int (0 : Int32)), (.int (0 : Int32)), (.int (0 : Int32)), (.int (0 : Int32)), (.int (0 : Int32)), (.int (0 : Int32)), (.int (0 : Int32)), (.int (0 : Int32))] (.int (0 : Int32)) := p14_0
      show Ga _ _ _ _ _ _ _ _ _ _ _ []
      refine g_aload X14 hx (hb hby at_68) rfl rfl rfl ?_
      have f16 : Fld Z T14.heap b10 "com/example/dunlin/dunlin/IntList" "m_nSize" "I" (.int (2 : Int32)) := (pv13_2.keep kc14 (ninS p11_2 nin0))
      have f17 : Exa Z T14.heap b10 "com/example/dunlin/dunlin/IntList" := (p13_0.keep kc14)
      refine g_virtual X14 hx hZ hown (hw _ (List.mem_of_getElem? (i := 33) rfl)) (hw _ (List.mem_of_getElem? (i := 34) rfl)) (notFace_of_selects (args := #[]) (mvT hZ (hw _ (List.mem_of_getElem? (i := 36) rfl)))) (hw _ (List.mem_of_getElem? (i := 36) rfl)) (hw _ (List.mem_of_getElem? (i := 35) rfl)) (hw _ (List.mem_of_getElem? (i := 3) rfl)) (hw _ (List.mem_of_getElem? (i := 37) rfl)) (by decide) (a := b10) f17 (rm_size l Z a0 hw b10 (2 : Int32) T14.heap n0 Z14 f16) (by rw [hml]; rfl) rfl [] rfl rfl (W := 0) (Nat.le_of_eq rfl) (by decide) (by decide) (by decide) (by decide) (lenOf pd_5 rfl) (hb hby at_70) rfl fun v15 T15 L15 X15 hQ15 => ?_
      obtain ⟨rfl, Nq15, eh15⟩ := hQ15
      have N15 := Fr.app N14 Nq15
      show Ga _ _ _ _ _ _ _ _ _ _ _ [(.int (2 : Int32))]
      refine g_iload X15 hx (hb hby at_73) rfl rfl ?_
      refine g_icmpY X15 hx (q := 80) (hb hby at_75) (XT.ii_eq_t (by decide : (2 : Int32) = (2 : Int32))) (by decide) (by decide) ?_
      refine g_aload X15 hx (hb hby at_80) rfl rfl rfl ?_
      refine g_iconst X15 hx (r := (0 : Int32)) (hb hby at_82) rfl rfl ?_
      have f19 : Fld Z T14.heap b10 "com/example/dunlin/dunlin/IntList" "m_aValues" "[I" (.ref b_11) := (p13_1.keep kc14 (ninS p11_2 nin0))
      refine g_virtual X15 hx hZ hown (hw _ (List.mem_of_getElem? (i := 38) rfl)) (hw _ (List.mem_of_getElem? (i := 39) rfl)) (notFace_of_selects (args := #[]) (mvT hZ (hw _ (List.mem_of_getElem? (i := 41) rfl)))) (hw _ (List.mem_of_getElem? (i := 41) rfl)) (hw _ (List.mem_of_getElem? (i := 40) rfl)) (hw _ (List.mem_of_getElem? (i := 3) rfl)) (hw _ (List.mem_of_getElem? (i := 42) rfl)) (by decide) (a := b10) f17 (rm_get l Z a0 hw b10 b_11 ka_11 (2 : Int32) [(.int p3), (.int p1), (.int (0 : Int32)), (.int (0 : Int32)), (.int (0 : Int32)), (.int (0 : Int32)), (.int (0 : Int32)), (.int (0 : Int32)), (.int (0 : Int32)), (.int (0 : Int32)), (.int (0 : Int32)), (.int (0 : Int32)), (.int (0 : Int32)), (.int (0 : Int32)), (.int (0 : Int32)), (.int (0 : Int32))] (0 : Int32) p3 T14.heap n0 Z14 f16 f19 pv14_0 (by first | decide | assumption | rfl) (by first | decide | assumption | rfl) (by first | decide | assumption | rfl) (by first | decide | assumption | rfl)) (by rw [hml]; rfl) eh15 [(.int (0 : Int32))] rfl rfl (W := 0) (Nat.le_of_eq rfl) (by decide) (by decide) (by decide) (by decide) (lenOf pd_6 rfl) (hb hby at_83) rfl fun v18 T18 L18 X18 hQ18 => ?_
      obtain ⟨rfl, Nq18, eh18⟩ := hQ18
      have N18 := Fr.app N15 Nq18
      show Ga _ _ _ _ _ _ _ _ _ _ _ [(.int p3)]
      refine g_iload X18 hx (hb hby at_86) rfl rfl ?_
      refine g_ifN X18 hx (hb hby at_88) rfl (XT.i0_ne_f (by decide : (0 : Int32) = (0 : Int32))) ?_
      refine g_iloadN X18 hx (hb hby at_91) rfl rfl ?_
      refine g_goto X18 hx (q := 96) (hb hby at_92) (by decide) (by decide) ?_
      refine g_icmpN X18 hx (hb hby at_96) rfl (XT.ii_ne_f rfl) ?_
      refine g_iconst X18 hx (r := (1 : Int32)) (hb hby at_99) rfl rfl ?_
      refine g_goto X18 hx (q := 104) (hb hby at_100) (by decide) (by decide) ?_
      refine g_istore X18 hx (Ls' := #[.val (.int p0), .val (.int p1), .val (.int p2), .val (.int p3), .val (.int p4), .val (.int p5), .val (.int (2 : Int32)), .val (.int (0 : Int32)), .val (.ref b10), .val (.int (1 : Int32))]) (hb hby at_104) rfl rfl ?_
      refine g_iload X18 hx (hb hby at_106) rfl rfl ?_
      refine g_iconst X18 hx (r := (2 : Int32)) (hb hby at_108) rfl rfl ?_
      refine g_icmpN X18 hx (hb hby at_109) rfl (XT.ii_lt_f (by decide : ¬ (2 : Int32) < (2 : Int32))) ?_
      refine g_iload X18 hx (hb hby at_112) rfl rfl ?_
      refine g_ifN X18 hx (hb hby at_114) rfl (XT.i0_eq_f (by decide : ¬ (1 : Int32) = (0 : Int32))) ?_
      refine g_aload X18 hx (hb hby at_117) rfl rfl rfl ?_
      refine g_iconst X18 hx (r := (1 : Int32)) (hb hby at_119) rfl rfl ?_
      refine g_virtual X18 hx hZ hown (hw _ (List.mem_of_getElem? (i := 38) rfl)) (hw _ (List.mem_of_getElem? (i := 39) rfl)) (notFace_of_selects (args := #[]) (mvT hZ (hw _ (List.mem_of_getElem? (i := 41) rfl)))) (hw _ (List.mem_of_getElem? (i := 41) rfl)) (hw _ (List.mem_of_getElem? (i := 40) rfl)) (hw _ (List.mem_of_getElem? (i := 3) rfl)) (hw _ (List.mem_of_getElem? (i := 42) rfl)) (by decide) (a := b10) f17 (rm_get l Z a0 hw b10 b_11 ka_11 (2 : Int32) [(.int p3), (.int p1), (.int (0 : Int32)), (.int (0 : Int32)), (.int (0 : Int32)), (.int (0 : Int32)), (.int (0 : Int32)), (.int (0 : Int32)), (.int (0 : Int32)), (.int (0 : Int32)), (.int (0 : Int32)), (.int (0 : Int32)), (.int (0 : Int32)), (.int (0 : Int32)), (.int (0 : Int32)), (.int (0 : Int32))] (1 : Int32) p1 T14.heap n0 Z14 f16 f19 pv14_0 (by first | decide | assumption | rfl) (by first | decide | assumption | rfl) (by first | decide | assumption | rfl) (by first | decide | assumption | rfl)) (by rw [hml]; rfl) eh18 [(.int (1 : Int32))] rfl rfl (W := 0) (Nat.le_of_eq rfl) (by decide) (by decide) (by decide) (by decide) (lenOf pd_6 rfl) (hb hby at_120) rfl fun v20 T20 L20 X20 hQ20 => ?_
      obtain ⟨rfl, Nq20, eh20⟩ := hQ20
      have N20 := Fr.app N18 Nq20
      show Ga _ _ _ _ _ _ _ _ _ _ _ [(.int p1)]
      refine g_iload X20 hx (hb hby at_123) rfl rfl ?_
      refine g_iconst X20 hx (r := (1 : Int32)) (hb hby at_125) rfl rfl ?_
      refine g_icmpY X20 hx (q := 133) (hb hby at_126) (XT.ii_ne_t (by decide : ¬ (0 : Int32) = (1 : Int32))) (by decide) (by decide) ?_
      refine g_iloadN X20 hx (hb hby at_133) rfl rfl ?_
      refine g_icmpN X20 hx (hb hby at_134) rfl (XT.ii_ne_f rfl) ?_
      refine g_iconst X20 hx (r := (1 : Int32)) (hb hby at_137) rfl rfl ?_
      refine g_goto X20 hx (q := 142) (hb hby at_138) (by decide) (by decide) ?_
      refine g_istore X20 hx (Ls' := #[.val (.int p0), .val (.int p1), .val (.int p2), .val (.int p3), .val (.int p4), .val (.int p5), .val (.int (2 : Int32)), .val (.int (0 : Int32)), .val (.ref b10), .val (.int (1 : Int32))]) (hb hby at_142) rfl rfl ?_
      refine g_iload X20 hx (hb hby at_144) rfl rfl ?_
      refine g_iconst X20 hx (r := (3 : Int32)) (hb hby at_146) rfl rfl ?_
      refine g_icmpY X20 hx (q := 182) (hb hby at_147) (XT.ii_lt_t (by decide : (2 : Int32) < (3 : Int32))) (by decide) (by decide) ?_
      refine g_iload X20 hx (hb hby at_182) rfl rfl ?_
      exact g_retN X20 hx (t := .boolean) (r := (1 : Int32)) hret (by simp) hlk (hb hby at_184) rfl (by decide) (by decide) (by rw [eh20]; exact ⟨rfl, N20⟩)
    · skip
      refine g_new X0 hx hZ hown (hw _ (List.mem_of_getElem? (i := 1) rfl)) (hw _ (List.mem_of_getElem? (i := 2) rfl)) (hw _ (List.mem_of_getElem? (i := 3) rfl)) e0 (hb hby at_21) rfl (by decide) (by decide) fun T21 h21 b21 X21 e21 q21 E21 A21 D21 => ?_
      have g_b21 : n0 ≤ b21 := Nat.le_trans Z0 (Nat.le_of_eq q21.symm)
      have Z21 : n0 ≤ h21.size := Nat.le_trans Z0 E21.1
      have F21_m_aValues : Fld Z h21 b21 "com/example/dunlin/dunlin/IntList" "m_aValues" "[I" .null := D21 (Or.inl (hw _ (List.mem_of_getElem? (i := 12) rfl))) (ty := (.array .int)) (by decide)
      have F21_m_nSize : Fld Z h21 b21 "com/example/dunlin/dunlin/IntList" "m_nSize" "I" (.int (0 : Int32)) := D21 (Or.inl (hw _ (List.mem_of_getElem? (i := 19) rfl))) (ty := .int) (by decide)
      refine g_dup X21 hx (hb hby at_24) rfl rfl ?_
      refine g_special X21 hx hZ hown rfl (hw _ (List.mem_of_getElem? (i := 4) rfl)) (hw _ (List.mem_of_getElem? (i := 5) rfl)) (hw _ (List.mem_of_getElem? (i := 3) rfl)) (hw _ (List.mem_of_getElem? (i := 6) rfl)) (by decide) (a := b21) (rm_ini l Z a0 hw b21 h21 n0 Z21 F21_m_aValues F21_m_nSize A21 g_b21) (by rw [hml]; rfl) e21 [] rfl rfl (W := 1) (Nat.le_of_eq rfl) (by decide) (by decide) (by decide) (by decide) (lenOf pd_2 rfl) (hb hby at_25) rfl fun v22 T22 L22 X22 hQ22 => ?_
      obtain ⟨b_22, ka_22, rfl, Nq22, kc22, p22_0, p22_1, p22_2, p22_3, p22_4, p22_5⟩ := hQ22
      have N22 := Fr.app N0 Nq22
      have ne_b21_b_22 : b21 ≠ b_22 := own_neK A21.lt p22_1
      have g_b_22 : n0 ≤ b_22 := Nat.le_trans Z21 p22_1
      have Z22 : n0 ≤ T22.heap.size := Nat.le_trans Z21 kc22.1
      have pv22_5 : Arv Z T22.heap b_22 ka_22 .int (16 : Int32) [(.int (0 : Int32)), (.int (0 : Int32)), (.int (0 : Int32)), (.int (0 : Int32)), (.int (0 : Int32)), (.int (0 : Int32)), (.int (0 : Int32)), (.int (0 : Int32)), (.int (0 : Int32)), (.int (0 : Int32)), (.int (0 : Int32)), (.int (0 : Int32)), (.int (0 : Int32)), (.int (0 : Int32)), (.int (0 : Int32)), (.int (0 : Int32))] (.int (0 : Int32)) := p22_5
      show Ga _ _ _ _ _ _ _ _ _ _ _ [(.ref b21)]
      refine g_astore X22 hx (Ls' := #[.val (.int p0), .val (.int p1), .val (.int p2), .val (.int p3), .val (.int p4), .val (.int p5), .val (.int (2 : Int32)), .val (.int (1 : Int32)), .val (.ref b21), .unset]) (hb hby at_28) rfl rfl rfl ?_
      refine g_aload X22 hx (hb hby at_30) rfl rfl rfl ?_
      refine g_iloadN X22 hx (hb hby at_32) rfl rfl ?_
      refine g_virtual X22 hx hZ hown (hw _ (List.mem_of_getElem? (i := 13) rfl)) (hw _ (List.mem_of_getElem? (i := 14) rfl)) (notFace_of_selects (args := #[]) (mvT hZ (hw _ (List.mem_of_getElem? (i := 16) rfl)))) (hw _ (List.mem_of_getElem? (i := 16) rfl)) (hw _ (List.mem_of_getElem? (i := 15) rfl)) (hw _ (List.mem_of_getElem? (i := 3) rfl)) (hw _ (List.mem_of_getElem? (i := 17) rfl)) (by decide) (a := b21) p22_0 (rm_add l Z a0 hw b21 b_22 ka_22 (0 : Int32) [(.int (0 : Int32)), (.int (0 : Int32)), (.int (0 : Int32)), (.int (0 : Int32)), (.int (0 : Int32)), (.int (0 : Int32)), (.int (0 : Int32)), (.int (0 : Int32)), (.int (0 : Int32)), (.int (0 : Int32)), (.int (0 : Int32)), (.int (0 : Int32)), (.int (0 : Int32)), (.int (0 : Int32)), (.int (0 : Int32)), (.int (0 : Int32))] p0 T22.heap n0 Z22 p22_4 p22_3 pv22_5 p22_0 g_b21 g_b_22 p22_2 (by first | decide | assumption | rfl) (by first | decide | assumption | rfl) (by first | decide | assumption | rfl)) (by rw [hml]; rfl) rfl [(.int p0)] rfl rfl (W := 0) (Nat.le_of_eq rfl) (by decide) (by decide) (by decide) (by decide) (lenOf pd_3 rfl) (hb hby at_33) rfl fun v23 T23 L23 X23 hQ23 => ?_
      obtain ⟨rfl, Nq23, kc23, p23_0, p23_1, p23_2, p23_3⟩ := hQ23
      have N23 := Fr.app N22 Nq23
      have Z23 : n0 ≤ T23.heap.size := Nat.le_trans Z22 kc23.1
      have pv23_2 : Fld Z T23.heap b21 "com/example/dunlin/dunlin/IntList" "m_nSize" "I" (.int (1 : Int32)) := p23_2
      have pv23_3 : Arv Z T23.heap b_22 ka_22 .int (16 : Int32) [(.int p0), (.int (0 : Int32)), (.int (0 : Int32)), (.int (0 : Int32)), (.int (0 : Int32)), (.int (0 : Int32)), (.int (0 : Int32)), (.int (0 : Int32)), (.int (0 : Int32)), (.int (0 : Int32)), (.int (0 : Int32)), (.int (0 : Int32)), (.int (0 : Int32)), (.int (0 : Int32)), (.int (0 : Int32)), (.int (0 : Int32))] (.int (0 : Int32)) := p23_3
      show Ga _ _ _ _ _ _ _ _ _ _ _ []
      refine g_iload X23 hx (hb hby at_36) rfl rfl ?_
      refine g_iconst X23 hx (r := (2 : Int32)) (hb hby at_38) rfl rfl ?_
      refine g_icmpN X23 hx (hb hby at_39) rfl (XT.ii_lt_f (by decide : ¬ (2 : Int32) < (2 : Int32))) ?_
      refine g_aload X23 hx (hb hby at_42) rfl rfl rfl ?_
      refine g_iloadN X23 hx (hb hby at_44) rfl rfl ?_
      refine g_virtual X23 hx hZ hown (hw _ (List.mem_of_getElem? (i := 13) rfl)) (hw _ (List.mem_of_getElem? (i := 14) rfl)) (notFace_of_selects (args := #[]) (mvT hZ (hw _ (List.mem_of_getElem? (i := 16) rfl)))) (hw _ (List.mem_of_getElem? (i := 16) rfl)) (hw _ (List.mem_of_getElem? (i := 15) rfl)) (hw _ (List.mem_of_getElem? (i := 3) rfl)) (hw _ (List.mem_of_getElem? (i := 17) rfl)) (by decide) (a := b21) p23_0 (rm_add l Z a0 hw b21 b_22 ka_22 (1 : Int32) [(.int p0), (.int (0 : Int32)), (.int (0 : Int32)), (.int (0 : Int32)), (.int (0 : Int32)), (.int (0 : Int32)), (.int (0 : Int32)), (.int (0 : Int32)), (.int (0 : Int32)), (.int (0 : Int32)), (.int (0 : Int32)), (.int (0 : Int32)), (.int (0 : Int32)), (.int (0 : Int32)), (.int (0 : Int32)), (.int (0 : Int32))] p1 T23.heap n0 Z23 pv23_2 p23_1 pv23_3 p23_0 g_b21 g_b_22 p22_2 (by first | decide | assumption | rfl) (by first | decide | assumption | rfl) (by first | decide | assumption | rfl)) (by rw [hml]; rfl) rfl [(.int p1)] rfl rfl (W := 0) (Nat.le_of_eq rfl) (by decide) (by decide) (by decide) (by decide) (lenOf pd_3 rfl) (hb hby at_45) rfl fun v24 T24 L24 X24 hQ24 => ?_
      obtain ⟨rfl, Nq24, kc24, p24_0, p24_1, p24_2, p24_3⟩ := hQ24
      have N24 := Fr.app N23 Nq24
      have Z24 : n0 ≤ T24.heap.size := Nat.le_trans Z23 kc24.1
      have pv24_2 : Fld Z T24.heap b21 "com/example/dunlin/dunlin/IntList" "m_nSize" "I" (.int (2 : Int32)) := p24_2
      have pv24_3 : Arv Z T24.heap b_22 ka_22 .int (16 : Int32) [(.int p0), (.int p1), (.int (0 : Int32)), (.int (0 : Int32)), (.int (0 : Int32)), (.int (0 : Int32)), (.int (0 : Int32)), (.int (0 : Int32)), (.int (0 : Int32)), (.int (0 : Int32)), (.int (0 : Int32)), (.int (0 : Int32)), (.int (0 : Int32)), (.int (0 : Int32)), (.int (0 : Int32)), (.int (0 : Int32))] (.int (0 : Int32)) := p24_3
      show Ga _ _ _ _ _ _ _ _ _ _ _ []
      refine g_iload X24 hx (hb hby at_48) rfl rfl ?_
      refine g_iconst X24 hx (r := (3 : Int32)) (hb hby at_50) rfl rfl ?_
      refine g_icmpY X24 hx (q := 60) (hb hby at_51) (XT.ii_lt_t (by decide : (2 : Int32) < (3 : Int32))) (by decide) (by decide) ?_
      refine g_aload X24 hx (hb hby at_60) rfl rfl rfl ?_
      refine g_iload X24 hx (hb hby at_62) rfl rfl ?_
      refine g_iloadN X24 hx (hb hby at_64) rfl rfl ?_
      refine g_virtual X24 hx hZ hown (hw _ (List.mem_of_getElem? (i := 20) rfl)) (hw _ (List.mem_of_getElem? (i := 21) rfl)) (notFace_of_selects (args := #[]) (mvT hZ (hw _ (List.mem_of_getElem? (i := 23) rfl)))) (hw _ (List.mem_of_getElem? (i := 23) rfl)) (hw _ (List.mem_of_getElem? (i := 22) rfl)) (hw _ (List.mem_of_getElem? (i := 3) rfl)) (hw _ (List.mem_of_getElem? (i := 24) rfl)) (by decide) (a := b21) p24_0 (rm_set l Z a0 hw b21 b_22 ka_22 (2 : Int32) [(.int p0), (.int p1), (.int (0 : Int32)), (.int (0 : Int32)), (.int (0 : Int32)), (.int (0 : Int32)), (.int (0 : Int32)), (.int (0 : Int32)), (.int (0 : Int32)), (.int (0 : Int32)), (.int (0 : Int32)), (.int (0 : Int32)), (.int (0 : Int32)), (.int (0 : Int32)), (.int (0 : Int32)), (.int (0 : Int32))] (1 : Int32) p3 T24.heap n0 Z24 pv24_2 p24_1 pv24_3 g_b_22 (by first | decide | assumption | rfl) (by first | decide | assumption | rfl) (by first | decide | assumption | rfl) (by first | decide | assumption | rfl)) (by rw [hml]; rfl) rfl [(.int (1 : Int32)), (.int p3)] rfl rfl (W := 0) (Nat.le_of_eq rfl) (by decide) (by decide) (by decide) (by decide) (lenOf pd_4 rfl) (hb hby at_65) rfl fun v25 T25 L25 X25 hQ25 => ?_
      obtain ⟨rfl, Nq25, kc25, p25_0⟩ := hQ25
      have N25 := Fr.app N24 Nq25
      have Z25 : n0 ≤ T25.heap.size := Nat.le_trans Z24 kc25.1
      have pv25_0 : Arv Z T25.heap b_22 ka_22 .int (16 : Int32) [(.int p0), (.int p3), (.int (0 : Int32)), (.int (0 : Int32)), (.int (0 : Int32)), (.int (0 : Int32)), (.int (0 : Int32)), (.int (0 : Int32)), (.int (0 : Int32)), (.int (0 : Int32)), (.int (0 : Int32)), (.int (0 : Int32)), (.int (0 : Int32)), (.int (0 : Int32)), (.int (0 : Int32)), (.int (0 : Int32))] (.int (0 : Int32)) := p25_0
      show Ga _ _ _ _ _ _ _ _ _ _ _ []
      refine g_aload X25 hx (hb hby at_68) rfl rfl rfl ?_
      have f27 : Fld Z T25.heap b21 "com/example/dunlin/dunlin/IntList" "m_nSize" "I" (.int (2 : Int32)) := (pv24_2.keep kc25 (ninS p22_2 nin0))
      have f28 : Exa Z T25.heap b21 "com/example/dunlin/dunlin/IntList" := (p24_0.keep kc25)
      refine g_virtual X25 hx hZ hown (hw _ (List.mem_of_getElem? (i := 33) rfl)) (hw _ (List.mem_of_getElem? (i := 34) rfl)) (notFace_of_selects (args := #[]) (mvT hZ (hw _ (List.mem_of_getElem? (i := 36) rfl)))) (hw _ (List.mem_of_getElem? (i := 36) rfl)) (hw _ (List.mem_of_getElem? (i := 35) rfl)) (hw _ (List.mem_of_getElem? (i := 3) rfl)) (hw _ (List.mem_of_getElem? (i := 37) rfl)) (by decide) (a := b21) f28 (rm_size l Z a0 hw b21 (2 : Int32) T25.heap n0 Z25 f27) (by rw [hml]; rfl) rfl [] rfl rfl (W := 0) (Nat.le_of_eq rfl) (by decide) (by decide) (by decide) (by decide) (lenOf pd_5 rfl) (hb hby at_70) rfl fun v26 T26 L26 X26 hQ26 => ?_
      obtain ⟨rfl, Nq26, eh26⟩ := hQ26
      have N26 := Fr.app N25 Nq26
      show Ga _ _ _ _ _ _ _ _ _ _ _ [(.int (2 : Int32))]
      refine g_iload X26 hx (hb hby at_73) rfl rfl ?_
      refine g_icmpY X26 hx (q := 80) (hb hby at_75) (XT.ii_eq_t (by decide : (2 : Int32) = (2 : Int32))) (by decide) (by decide) ?_
      refine g_aload X26 hx (hb hby at_80) rfl rfl rfl ?_
      refine g_iconst X26 hx (r := (0 : Int32)) (hb hby at_82) rfl rfl ?_
      have f30 : Fld Z T25.heap b21 "com/example/dunlin/dunlin/IntList" "m_aValues" "[I" (.ref b_22) := (p24_1.keep kc25 (ninS p22_2 nin0))
      refine g_virtual X26 hx hZ hown (hw _ (List.mem_of_getElem? (i := 38) rfl)) (hw _ (List.mem_of_getElem? (i := 39) rfl)) (notFace_of_selects (args := #[]) (mvT hZ (hw _ (List.mem_of_getElem? (i := 41) rfl)))) (hw _ (List.mem_of_getElem? (i := 41) rfl)) (hw _ (List.mem_of_getElem? (i := 40) rfl)) (hw _ (List.mem_of_getElem? (i := 3) rfl)) (hw _ (List.mem_of_getElem? (i := 42) rfl)) (by decide) (a := b21) f28 (rm_get l Z a0 hw b21 b_22 ka_22 (2 : Int32) [(.int p0), (.int p3), (.int (0 : Int32)), (.int (0 : Int32)), (.int (0 : Int32)), (.int (0 : Int32)), (.int (0 : Int32)), (.int (0 : Int32)), (.int (0 : Int32)), (.int (0 : Int32)), (.int (0 : Int32)), (.int (0 : Int32)), (.int (0 : Int32)), (.int (0 : Int32)), (.int (0 : Int32)), (.int (0 : Int32))] (0 : Int32) p0 T25.heap n0 Z25 f27 f30 pv25_0 (by first | decide | assumption | rfl) (by first | decide | assumption | rfl) (by first | decide | assumption | rfl) (by first | decide | assumption | rfl)) (by rw [hml]; rfl) eh26 [(.int (0 : Int32))] rfl rfl (W := 0) (Nat.le_of_eq rfl) (by decide) (by decide) (by decide) (by decide) (lenOf pd_6 rfl) (hb hby at_83) rfl fun v29 T29 L29 X29 hQ29 => ?_
      obtain ⟨rfl, Nq29, eh29⟩ := hQ29
      have N29 := Fr.app N26 Nq29
      show Ga _ _ _ _ _ _ _ _ _ _ _ [(.int p0)]
      refine g_iload X29 hx (hb hby at_86) rfl rfl ?_
      refine g_ifY X29 hx (q := 95) (hb hby at_88) (XT.i0_ne_t (by decide : ¬ (1 : Int32) = (0 : Int32))) (by decide) (by decide) ?_
      refine g_iloadN X29 hx (hb hby at_95) rfl rfl ?_
      refine g_icmpN X29 hx (hb hby at_96) rfl (XT.ii_ne_f rfl) ?_
      refine g_iconst X29 hx (r := (1 : Int32)) (hb hby at_99) rfl rfl ?_
      refine g_goto X29 hx (q := 104) (hb hby at_100) (by decide) (by decide) ?_
      refine g_istore X29 hx (Ls' := #[.val (.int p0), .val (.int p1), .val (.int p2), .val (.int p3), .val (.int p4), .val (.int p5), .val (.int (2 : Int32)), .val (.int (1 : Int32)), .val (.ref b21), .val (.int (1 : Int32))]) (hb hby at_104) rfl rfl ?_
      refine g_iload X29 hx (hb hby at_106) rfl rfl ?_
      refine g_iconst X29 hx (r := (2 : Int32)) (hb hby at_108) rfl rfl ?_
      refine g_icmpN X29 hx (hb hby at_109) rfl (XT.ii_lt_f (by decide : ¬ (2 : Int32) < (2 : Int32))) ?_
      refine g_iload X29 hx (hb hby at_112) rfl rfl ?_
      refine g_ifN X29 hx (hb hby at_114) rfl (XT.i0_eq_f (by decide : ¬ (1 : Int32) = (0 : Int32))) ?_
      refine g_aload X29 hx (hb hby at_117) rfl rfl rfl ?_
      refine g_iconst X29 hx (r := (1 : Int32)) (hb hby at_119) rfl rfl ?_
      refine g_virtual X29 hx hZ hown (hw _ (List.mem_of_getElem? (i := 38) rfl)) (hw _ (List.mem_of_getElem? (i := 39) rfl)) (notFace_of_selects (args := #[]) (mvT hZ (hw _ (List.mem_of_getElem? (i := 41) rfl)))) (hw _ (List.mem_of_getElem? (i := 41) rfl)) (hw _ (List.mem_of_getElem? (i := 40) rfl)) (hw _ (List.mem_of_getElem? (i := 3) rfl)) (hw _ (List.mem_of_getElem? (i := 42) rfl)) (by decide) (a := b21) f28 (rm_get l Z a0 hw b21 b_22 ka_22 (2 : Int32) [(.int p0), (.int p3), (.int (0 : Int32)), (.int (0 : Int32)), (.int (0 : Int32)), (.int (0 : Int32)), (.int (0 : Int32)), (.int (0 : Int32)), (.int (0 : Int32)), (.int (0 : Int32)), (.int (0 : Int32)), (.int (0 : Int32)), (.int (0 : Int32)), (.int (0 : Int32)), (.int (0 : Int32)), (.int (0 : Int32))] (1 : Int32) p3 T25.heap n0 Z25 f27 f30 pv25_0 (by first | decide | assumption | rfl) (by first | decide | assumption | rfl) (by first | decide | assumption | rfl) (by first | decide | assumption | rfl)) (by rw [hml]; rfl) eh29 [(.int (1 : Int32))] rfl rfl (W := 0) (Nat.le_of_eq rfl) (by decide) (by decide) (by decide) (by decide) (lenOf pd_6 rfl) (hb hby at_120) rfl fun v31 T31 L31 X31 hQ31 => ?_
      obtain ⟨rfl, Nq31, eh31⟩ := hQ31
      have N31 := Fr.app N29 Nq31
      show Ga _ _ _ _ _ _ _ _ _ _ _ [(.int p3)]
      refine g_iload X31 hx (hb hby at_123) rfl rfl ?_
      refine g_iconst X31 hx (r := (1 : Int32)) (hb hby at_125) rfl rfl ?_
      refine g_icmpN X31 hx (hb hby at_126) rfl (XT.ii_ne_f (by decide : (1 : Int32) = (1 : Int32))) ?_
      refine g_iloadN X31 hx (hb hby at_129) rfl rfl ?_
      refine g_goto X31 hx (q := 134) (hb hby at_130) (by decide) (by decide) ?_
      refine g_icmpN X31 hx (hb hby at_134) rfl (XT.ii_ne_f rfl) ?_
      refine g_iconst X31 hx (r := (1 : Int32)) (hb hby at_137) rfl rfl ?_
      refine g_goto X31 hx (q := 142) (hb hby at_138) (by decide) (by decide) ?_
      refine g_istore X31 hx (Ls' := #[.val (.int p0), .val (.int p1), .val (.int p2), .val (.int p3), .val (.int p4), .val (.int p5), .val (.int (2 : Int32)), .val (.int (1 : Int32)), .val (.ref b21), .val (.int (1 : Int32))]) (hb hby at_142) rfl rfl ?_
      refine g_iload X31 hx (hb hby at_144) rfl rfl ?_
      refine g_iconst X31 hx (r := (3 : Int32)) (hb hby at_146) rfl rfl ?_
      refine g_icmpY X31 hx (q := 182) (hb hby at_147) (XT.ii_lt_t (by decide : (2 : Int32) < (3 : Int32))) (by decide) (by decide) ?_
      refine g_iload X31 hx (hb hby at_182) rfl rfl ?_
      exact g_retN X31 hx (t := .boolean) (r := (1 : Int32)) hret (by simp) hlk (hb hby at_184) rfl (by decide) (by decide) (by rw [eh31]; exact ⟨rfl, N31⟩)
  · skip
    refine g_iadd X0 hx (r := (3 : Int32)) (hb hby at_8) rfl rfl ?_
    refine g_istore X0 hx (Ls' := #[.val (.int p0), .val (.int p1), .val (.int p2), .val (.int p3), .val (.int p4), .val (.int p5), .val (.int (3 : Int32)), .unset, .unset, .unset]) (hb hby at_9) rfl rfl ?_
    refine g_iload X0 hx (hb hby at_11) rfl rfl ?_
    refine g_ldcI X0 hx hZ hown (hw _ (List.mem_of_getElem? (i := 0) rfl)) (hb hby at_13) rfl ?_
    refine g_iand X0 hx (hb hby at_15) rfl rfl ?_
    refine g_iload X0 hx (hb hby at_16) rfl rfl ?_
    obtain ⟨v18, hv18⟩ : ∃ r, ((p4 &&& (2147483647 : Int32)) % (3 : Int32)) = r := ⟨_, rfl⟩
    refine g_irem X0 hx (hb hby at_18) rfl (by decide) hv18 ?_
    refine g_istore X0 hx (Ls' := #[.val (.int p0), .val (.int p1), .val (.int p2), .val (.int p3), .val (.int p4), .val (.int p5), .val (.int (3 : Int32)), .val (.int v18), .unset, .unset]) (hb hby at_19) rfl rfl ?_
    have hcs_v18 : v18 = (0 : Int32) ∨ v18 = (1 : Int32) ∨ v18 = (2 : Int32) := own_rem3 (own_mx rfl) hv18
    rcases hcs_v18 with rfl | rfl | rfl
    · skip
      refine g_new X0 hx hZ hown (hw _ (List.mem_of_getElem? (i := 1) rfl)) (hw _ (List.mem_of_getElem? (i := 2) rfl)) (hw _ (List.mem_of_getElem? (i := 3) rfl)) e0 (hb hby at_21) rfl (by decide) (by decide) fun T32 h32 b32 X32 e32 q32 E32 A32 D32 => ?_
      have g_b32 : n0 ≤ b32 := Nat.le_trans Z0 (Nat.le_of_eq q32.symm)
      have Z32 : n0 ≤ h32.size := Nat.le_trans Z0 E32.1
      have F32_m_aValues : Fld Z h32 b32 "com/example/dunlin/dunlin/IntList" "m_aValues" "[I" .null := D32 (Or.inl (hw _ (List.mem_of_getElem? (i := 12) rfl))) (ty := (.array .int)) (by decide)
      have F32_m_nSize : Fld Z h32 b32 "com/example/dunlin/dunlin/IntList" "m_nSize" "I" (.int (0 : Int32)) := D32 (Or.inl (hw _ (List.mem_of_getElem? (i := 19) rfl))) (ty := .int) (by decide)
      refine g_dup X32 hx (hb hby at_24) rfl rfl ?_
      refine g_special X32 hx hZ hown rfl (hw _ (List.mem_of_getElem? (i := 4) rfl)) (hw _ (List.mem_of_getElem? (i := 5) rfl)) (hw _ (List.mem_of_getElem? (i := 3) rfl)) (hw _ (List.mem_of_getElem? (i := 6) rfl)) (by decide) (a := b32) (rm_ini l Z a0 hw b32 h32 n0 Z32 F32_m_aValues F32_m_nSize A32 g_b32) (by rw [hml]; rfl) e32 [] rfl rfl (W := 1) (Nat.le_of_eq rfl) (by decide) (by decide) (by decide) (by decide) (lenOf pd_2 rfl) (hb hby at_25) rfl fun v33 T33 L33 X33 hQ33 => ?_
      obtain ⟨b_33, ka_33, rfl, Nq33, kc33, p33_0, p33_1, p33_2, p33_3, p33_4, p33_5⟩ := hQ33
      have N33 := Fr.app N0 Nq33
      have ne_b32_b_33 : b32 ≠ b_33 := own_neK A32.lt p33_1
      have g_b_33 : n0 ≤ b_33 := Nat.le_trans Z32 p33_1
      have Z33 : n0 ≤ T33.heap.size := Nat.le_trans Z32 kc33.1
      have pv33_5 : Arv Z T33.heap b_33 ka_33 .int (16 : Int32) [(.int (0 : Int32)), (.int (0 : Int32)), (.int (0 : Int32)), (.int (0 : Int32)), (.int (0 : Int32)), (.int (0 : Int32)), (.int (0 : Int32)), (.int (0 : Int32)), (.int (0 : Int32)), (.int (0 : Int32)), (.int (0 : Int32)), (.int (0 : Int32)), (.int (0 : Int32)), (.int (0 : Int32)), (.int (0 : Int32)), (.int (0 : Int32))] (.int (0 : Int32)) := p33_5
      show Ga _ _ _ _ _ _ _ _ _ _ _ [(.ref b32)]
      refine g_astore X33 hx (Ls' := #[.val (.int p0), .val (.int p1), .val (.int p2), .val (.int p3), .val (.int p4), .val (.int p5), .val (.int (3 : Int32)), .val (.int (0 : Int32)), .val (.ref b32), .unset]) (hb hby at_28) rfl rfl rfl ?_
      refine g_aload X33 hx (hb hby at_30) rfl rfl rfl ?_
      refine g_iloadN X33 hx (hb hby at_32) rfl rfl ?_
      refine g_virtual X33 hx hZ hown (hw _ (List.mem_of_getElem? (i := 13) rfl)) (hw _ (List.mem_of_getElem? (i := 14) rfl)) (notFace_of_selects (args := #[]) (mvT hZ (hw _ (List.mem_of_getElem? (i := 16) rfl)))) (hw _ (List.mem_of_getElem? (i := 16) rfl)) (hw _ (List.mem_of_getElem? (i := 15) rfl)) (hw _ (List.mem_of_getElem? (i := 3) rfl)) (hw _ (List.mem_of_getElem? (i := 17) rfl)) (by decide) (a := b32) p33_0 (rm_add l Z a0 hw b32 b_33 ka_33 (0 : Int32) [(.int (0 : Int32)), (.int (0 : Int32)), (.int (0 : Int32)), (.int (0 : Int32)), (.int (0 : Int32)), (.int (0 : Int32)), (.int (0 : Int32)), (.int (0 : Int32)), (.int (0 : Int32)), (.int (0 : Int32)), (.int (0 : Int32)), (.int (0 : Int32)), (.int (0 : Int32)), (.int (0 : Int32)), (.int (0 : Int32)), (.int (0 : Int32))] p0 T33.heap n0 Z33 p33_4 p33_3 pv33_5 p33_0 g_b32 g_b_33 p33_2 (by first | decide | assumption | rfl) (by first | decide | assumption | rfl) (by first | decide | assumption | rfl)) (by rw [hml]; rfl) rfl [(.int p0)] rfl rfl (W := 0) (Nat.le_of_eq rfl) (by decide) (by decide) (by decide) (by decide) (lenOf pd_3 rfl) (hb hby at_33) rfl fun v34 T34 L34 X34 hQ34 => ?_
      obtain ⟨rfl, Nq34, kc34, p34_0, p34_1, p34_2, p34_3⟩ := hQ34
      have N34 := Fr.app N33 Nq34
      have Z34 : n0 ≤ T34.heap.size := Nat.le_trans Z33 kc34.1
      have pv34_2 : Fld Z T34.heap b32 "com/example/dunlin/dunlin/IntList" "m_nSize" "I" (.int (1 : Int32)) := p34_2
      have pv34_3 : Arv Z T34.heap b_33 ka_33 .int (16 : Int32) [(.int p0), (.int (0 : Int32)), (.int (0 : Int32)), (.int (0 : Int32)), (.int (0 : Int32)), (.int (0 : Int32)), (.int (0 : Int32)), (.int (0 : Int32)), (.int (0 : Int32)), (.int (0 : Int32)), (.int (0 : Int32)), (.int (0 : Int32)), (.int (0 : Int32)), (.int (0 : Int32)), (.int (0 : Int32)), (.int (0 : Int32))] (.int (0 : Int32)) := p34_3
      show Ga _ _ _ _ _ _ _ _ _ _ _ []
      refine g_iload X34 hx (hb hby at_36) rfl rfl ?_
      refine g_iconst X34 hx (r := (2 : Int32)) (hb hby at_38) rfl rfl ?_
      refine g_icmpN X34 hx (hb hby at_39) rfl (XT.ii_lt_f (by decide : ¬ (3 : Int32) < (2 : Int32))) ?_
      refine g_aload X34 hx (hb hby at_42) rfl rfl rfl ?_
      refine g_iloadN X34 hx (hb hby at_44) rfl rfl ?_
      refine g_virtual X34 hx hZ hown (hw _ (List.mem_of_getElem? (i := 13) rfl)) (hw _ (List.mem_of_getElem? (i := 14) rfl)) (notFace_of_selects (args := #[]) (mvT hZ (hw _ (List.mem_of_getElem? (i := 16) rfl)))) (hw _ (List.mem_of_getElem? (i := 16) rfl)) (hw _ (List.mem_of_getElem? (i := 15) rfl)) (hw _ (List.mem_of_getElem? (i := 3) rfl)) (hw _ (List.mem_of_getElem? (i := 17) rfl)) (by decide) (a := b32) p34_0 (rm_add l Z a0 hw b32 b_33 ka_33 (1 : Int32) [(.int p0), (.int (0 : Int32)), (.int (0 : Int32)), (.int (0 : Int32)), (.int (0 : Int32)), (.int (0 : Int32)), (.int (0 : Int32)), (.int (0 : Int32)), (.int (0 : Int32)), (.int (0 : Int32)), (.int (0 : Int32)), (.int (0 : Int32)), (.int (0 : Int32)), (.int (0 : Int32)), (.int (0 : Int32)), (.int (0 : Int32))] p1 T34.heap n0 Z34 pv34_2 p34_1 pv34_3 p34_0 g_b32 g_b_33 p33_2 (by first | decide | assumption | rfl) (by first | decide | assumption | rfl) (by first | decide | assumption | rfl)) (by rw [hml]; rfl) rfl [(.int p1)] rfl rfl (W := 0) (Nat.le_of_eq rfl) (by decide) (by decide) (by decide) (by decide) (lenOf pd_3 rfl) (hb hby at_45) rfl fun v35 T35 L35 X35 hQ35 => ?_
      obtain ⟨rfl, Nq35, kc35, p35_0, p35_1, p35_2, p35_3⟩ := hQ35
      have N35 := Fr.app N34 Nq35
      have Z35 : n0 ≤ T35.heap.size := Nat.le_trans Z34 kc35.1
      have pv35_2 : Fld Z T35.heap b32 "com/example/dunlin/dunlin/IntList" "m_nSize" "I" (.int (2 : Int32)) := p35_2
      have pv35_3 : Arv Z T35.heap b_33 ka_33 .int (16 : Int32) [(.int p0), (.int p1), (.int (0 : Int32)), (.int (0 : Int32)), (.int (0 : Int32)), (.int (0 : Int32)), (.int (0 : Int32)), (.int (0 : Int32)), (.int (0 : Int32)), (.int (0 : Int32)), (.int (0 : Int32)), (.int (0 : Int32)), (.int (0 : Int32)), (.int (0 : Int32)), (.int (0 : Int32)), (.int (0 : Int32))] (.int (0 : Int32)) := p35_3
      show Ga _ _ _ _ _ _ _ _ _ _ _ []
      refine g_iload X35 hx (hb hby at_48) rfl rfl ?_
      refine g_iconst X35 hx (r := (3 : Int32)) (hb hby at_50) rfl rfl ?_
      refine g_icmpN X35 hx (hb hby at_51) rfl (XT.ii_lt_f (by decide : ¬ (3 : Int32) < (3 : Int32))) ?_
      refine g_aload X35 hx (hb hby at_54) rfl rfl rfl ?_
      refine g_iloadN X35 hx (hb hby at_56) rfl rfl ?_
      refine g_virtual X35 hx hZ hown (hw _ (List.mem_of_getElem? (i := 13) rfl)) (hw _ (List.mem_of_getElem? (i := 14) rfl)) (notFace_of_selects (args := #[]) (mvT hZ (hw _ (List.mem_of_getElem? (i := 16) rfl)))) (hw _ (List.mem_of_getElem? (i := 16) rfl)) (hw _ (List.mem_of_getElem? (i := 15) rfl)) (hw _ (List.mem_of_getElem? (i := 3) rfl)) (hw _ (List.mem_of_getElem? (i := 17) rfl)) (by decide) (a := b32) p35_0 (rm_add l Z a0 hw b32 b_33 ka_33 (2 : Int32) [(.int p0), (.int p1), (.int (0 : Int32)), (.int (0 : Int32)), (.int (0 : Int32)), (.int (0 : Int32)), (.int (0 : Int32)), (.int (0 : Int32)), (.int (0 : Int32)), (.int (0 : Int32)), (.int (0 : Int32)), (.int (0 : Int32)), (.int (0 : Int32)), (.int (0 : Int32)), (.int (0 : Int32)), (.int (0 : Int32))] p2 T35.heap n0 Z35 pv35_2 p35_1 pv35_3 p35_0 g_b32 g_b_33 p33_2 (by first | decide | assumption | rfl) (by first | decide | assumption | rfl) (by first | decide | assumption | rfl)) (by rw [hml]; rfl) rfl [(.int p2)] rfl rfl (W := 0) (Nat.le_of_eq rfl) (by decide) (by decide) (by decide) (by decide) (lenOf pd_3 rfl) (hb hby at_57) rfl fun v36 T36 L36 X36 hQ36 => ?_
      obtain ⟨rfl, Nq36, kc36, p36_0, p36_1, p36_2, p36_3⟩ := hQ36
      have N36 := Fr.app N35 Nq36
      have Z36 : n0 ≤ T36.heap.size := Nat.le_trans Z35 kc36.1
      have pv36_2 : Fld Z T36.heap b32 "com/example/dunlin/dunlin/IntList" "m_nSize" "I" (.int (3 : Int32)) := p36_2
      have pv36_3 : Arv Z T36.heap b_33 ka_33 .int (16 : Int32) [(.int p0), (.int p1), (.int p2), (.int (0 : Int32)), (.int (0 : Int32)), (.int (0 : Int32)), (.int (0 : Int32)), (.int (0 : Int32)), (.int (0 : Int32)), (.int (0 : Int32)), (.int (0 : Int32)), (.int (0 : Int32)), (.int (0 : Int32)), (.int (0 : Int32)), (.int (0 : Int32)), (.int (0 : Int32))] (.int (0 : Int32)) := p36_3
      show Ga _ _ _ _ _ _ _ _ _ _ _ []
      refine g_aload X36 hx (hb hby at_60) rfl rfl rfl ?_
      refine g_iload X36 hx (hb hby at_62) rfl rfl ?_
      refine g_iloadN X36 hx (hb hby at_64) rfl rfl ?_
      refine g_virtual X36 hx hZ hown (hw _ (List.mem_of_getElem? (i := 20) rfl)) (hw _ (List.mem_of_getElem? (i := 21) rfl)) (notFace_of_selects (args := #[]) (mvT hZ (hw _ (List.mem_of_getElem? (i := 23) rfl)))) (hw _ (List.mem_of_getElem? (i := 23) rfl)) (hw _ (List.mem_of_getElem? (i := 22) rfl)) (hw _ (List.mem_of_getElem? (i := 3) rfl)) (hw _ (List.mem_of_getElem? (i := 24) rfl)) (by decide) (a := b32) p36_0 (rm_set l Z a0 hw b32 b_33 ka_33 (3 : Int32) [(.int p0), (.int p1), (.int p2), (.int (0 : Int32)), (.int (0 : Int32)), (.int (0 : Int32)), (.int (0 : Int32)), (.int (0 : Int32)), (.int (0 : Int32)), (.int (0 : Int32)), (.int (0 : Int32)), (.int (0 : Int32)), (.int (0 : Int32)), (.int (0 : Int32)), (.int (0 : Int32)), (.int (0 : Int32))] (0 : Int32) p3 T36.heap n0 Z36 pv36_2 p36_1 pv36_3 g_b_33 (by first | decide | assumption | rfl) (by first | decide | assumption | rfl) (by first | decide | assumption | rfl) (by first | decide | assumption | rfl)) (by rw [hml]; rfl) rfl [(.int (0 : Int32)), (.int p3)] rfl rfl (W := 0) (Nat.le_of_eq rfl) (by decide) (by decide) (by decide) (by decide) (lenOf pd_4 rfl) (hb hby at_65) rfl fun v37 T37 L37 X37 hQ37 => ?_
      obtain ⟨rfl, Nq37, kc37, p37_0⟩ := hQ37
      have N37 := Fr.app N36 Nq37
      have Z37 : n0 ≤ T37.heap.size := Nat.le_trans Z36 kc37.1
      have pv37_0 : Arv Z T37.heap b_33 ka_33 .int (16 : Int32) [(.int p3), (.int p1), (.int p2), (.int (0 : Int32)), (.int (0 : Int32)), (.int (0 : Int32)), (.int (0 : Int32)), (.int (0 : Int32)), (.int (0 : Int32)), (.int (0 : Int32)), (.int (0 : Int32)), (.int (0 : Int32)), (.int (0 : Int32)), (.int (0 : Int32)), (.int (0 : Int32)), (.int (0 : Int32))] (.int (0 : Int32)) := p37_0
      show Ga _ _ _ _ _ _ _ _ _ _ _ []
      refine g_aload X37 hx (hb hby at_68) rfl rfl rfl ?_
      have f39 : Fld Z T37.heap b32 "com/example/dunlin/dunlin/IntList" "m_nSize" "I" (.int (3 : Int32)) := (pv36_2.keep kc37 (ninS p33_2 nin0))
      have f40 : Exa Z T37.heap b32 "com/example/dunlin/dunlin/IntList" := (p36_0.keep kc37)
      refine g_virtual X37 hx hZ hown (hw _ (List.mem_of_getElem? (i := 33) rfl)) (hw _ (List.mem_of_getElem? (i := 34) rfl)) (notFace_of_selects (args := #[]) (mvT hZ (hw _ (List.mem_of_getElem? (i := 36) rfl)))) (hw _ (List.mem_of_getElem? (i := 36) rfl)) (hw _ (List.mem_of_getElem? (i := 35) rfl)) (hw _ (List.mem_of_getElem? (i := 3) rfl)) (hw _ (List.mem_of_getElem? (i := 37) rfl)) (by decide) (a := b32) f40 (rm_size l Z a0 hw b32 (3 : Int32) T37.heap n0 Z37 f39) (by rw [hml]; rfl) rfl [] rfl rfl (W := 0) (Nat.le_of_eq rfl) (by decide) (by decide) (by decide) (by decide) (lenOf pd_5 rfl) (hb hby at_70) rfl fun v38 T38 L38 X38 hQ38 => ?_
      obtain ⟨rfl, Nq38, eh38⟩ := hQ38
      have N38 := Fr.app N37 Nq38
      show Ga _ _ _ _ _ _ _ _ _ _ _ [(.int (3 : Int32))]
      refine g_iload X38 hx (hb hby at_73) rfl rfl ?_
      refine g_icmpY X38 hx (q := 80) (hb hby at_75) (XT.ii_eq_t (by decide : (3 : Int32) = (3 : Int32))) (by decide) (by decide) ?_
      refine g_aload X38 hx (hb hby at_80) rfl rfl rfl ?_
      refine g_iconst X38 hx (r := (0 : Int32)) (hb hby at_82) rfl rfl ?_
      have f42 : Fld Z T37.heap b32 "com/example/dunlin/dunlin/IntList" "m_aValues" "[I" (.ref b_33) := (p36_1.keep kc37 (ninS p33_2 nin0))
      refine g_virtual X38 hx hZ hown (hw _ (List.mem_of_getElem? (i := 38) rfl)) (hw _ (List.mem_of_getElem? (i := 39) rfl)) (notFace_of_selects (args := #[]) (mvT hZ (hw _ (List.mem_of_getElem? (i := 41) rfl)))) (hw _ (List.mem_of_getElem? (i := 41) rfl)) (hw _ (List.mem_of_getElem? (i := 40) rfl)) (hw _ (List.mem_of_getElem? (i := 3) rfl)) (hw _ (List.mem_of_getElem? (i := 42) rfl)) (by decide) (a := b32) f40 (rm_get l Z a0 hw b32 b_33 ka_33 (3 : Int32) [(.int p3), (.int p1), (.int p2), (.int (0 : Int32)), (.int (0 : Int32)), (.int (0 : Int32)), (.int (0 : Int32)), (.int (0 : Int32)), (.int (0 : Int32)), (.int (0 : Int32)), (.int (0 : Int32)), (.int (0 : Int32)), (.int (0 : Int32)), (.int (0 : Int32)), (.int (0 : Int32)), (.int (0 : Int32))] (0 : Int32) p3 T37.heap n0 Z37 f39 f42 pv37_0 (by first | decide | assumption | rfl) (by first | decide | assumption | rfl) (by first | decide | assumption | rfl) (by first | decide | assumption | rfl)) (by rw [hml]; rfl) eh38 [(.int (0 : Int32))] rfl rfl (W := 0) (Nat.le_of_eq rfl) (by decide) (by decide) (by decide) (by decide) (lenOf pd_6 rfl) (hb hby at_83) rfl fun v41 T41 L41 X41 hQ41 => ?_
      obtain ⟨rfl, Nq41, eh41⟩ := hQ41
      have N41 := Fr.app N38 Nq41
      show Ga _ _ _ _ _ _ _ _ _ _ _ [(.int p3)]
      refine g_iload X41 hx (hb hby at_86) rfl rfl ?_
      refine g_ifN X41 hx (hb hby at_88) rfl (XT.i0_ne_f (by decide : (0 : Int32) = (0 : Int32))) ?_
      refine g_iloadN X41 hx (hb hby at_91) rfl rfl ?_
      refine g_goto X41 hx (q := 96) (hb hby at_92) (by decide) (by decide) ?_
      refine g_icmpN X41 hx (hb hby at_96) rfl (XT.ii_ne_f rfl) ?_
      refine g_iconst X41 hx (r := (1 : Int32)) (hb hby at_99) rfl rfl ?_
      refine g_goto X41 hx (q := 104) (hb hby at_100) (by decide) (by decide) ?_
      refine g_istore X41 hx (Ls' := #[.val (.int p0), .val (.int p1), .val (.int p2), .val (.int p3), .val (.int p4), .val (.int p5), .val (.int (3 : Int32)), .val (.int (0 : Int32)), .val (.ref b32), .val (.int (1 : Int32))]) (hb hby at_104) rfl rfl ?_
      refine g_iload X41 hx (hb hby at_106) rfl rfl ?_
      refine g_iconst X41 hx (r := (2 : Int32)) (hb hby at_108) rfl rfl ?_
      refine g_icmpN X41 hx (hb hby at_109) rfl (XT.ii_lt_f (by decide : ¬ (3 : Int32) < (2 : Int32))) ?_
      refine g_iload X41 hx (hb hby at_112) rfl rfl ?_
      refine g_ifN X41 hx (hb hby at_114) rfl (XT.i0_eq_f (by decide : ¬ (1 : Int32) = (0 : Int32))) ?_
      refine g_aload X41 hx (hb hby at_117) rfl rfl rfl ?_
      refine g_iconst X41 hx (r := (1 : Int32)) (hb hby at_119) rfl rfl ?_
      refine g_virtual X41 hx hZ hown (hw _ (List.mem_of_getElem? (i := 38) rfl)) (hw _ (List.mem_of_getElem? (i := 39) rfl)) (notFace_of_selects (args := #[]) (mvT hZ (hw _ (List.mem_of_getElem? (i := 41) rfl)))) (hw _ (List.mem_of_getElem? (i := 41) rfl)) (hw _ (List.mem_of_getElem? (i := 40) rfl)) (hw _ (List.mem_of_getElem? (i := 3) rfl)) (hw _ (List.mem_of_getElem? (i := 42) rfl)) (by decide) (a := b32) f40 (rm_get l Z a0 hw b32 b_33 ka_33 (3 : Int32) [(.int p3), (.int p1), (.int p2), (.int (0 : Int32)), (.int (0 : Int32)), (.int (0 : Int32)), (.int (0 : Int32)), (.int (0 : Int32)), (.int (0 : Int32)), (.int (0 : Int32)), (.int (0 : Int32)), (.int (0 : Int32)), (.int (0 : Int32)), (.int (0 : Int32)), (.int (0 : Int32)), (.int (0 : Int32))] (1 : Int32) p1 T37.heap n0 Z37 f39 f42 pv37_0 (by first | decide | assumption | rfl) (by first | decide | assumption | rfl) (by first | decide | assumption | rfl) (by first | decide | assumption | rfl)) (by rw [hml]; rfl) eh41 [(.int (1 : Int32))] rfl rfl (W := 0) (Nat.le_of_eq rfl) (by decide) (by decide) (by decide) (by decide) (lenOf pd_6 rfl) (hb hby at_120) rfl fun v43 T43 L43 X43 hQ43 => ?_
      obtain ⟨rfl, Nq43, eh43⟩ := hQ43
      have N43 := Fr.app N41 Nq43
      show Ga _ _ _ _ _ _ _ _ _ _ _ [(.int p1)]
      refine g_iload X43 hx (hb hby at_123) rfl rfl ?_
      refine g_iconst X43 hx (r := (1 : Int32)) (hb hby at_125) rfl rfl ?_
      refine g_icmpY X43 hx (q := 133) (hb hby at_126) (XT.ii_ne_t (by decide : ¬ (0 : Int32) = (1 : Int32))) (by decide) (by decide) ?_
      refine g_iloadN X43 hx (hb hby at_133) rfl rfl ?_
      refine g_icmpN X43 hx (hb hby at_134) rfl (XT.ii_ne_f rfl) ?_
      refine g_iconst X43 hx (r := (1 : Int32)) (hb hby at_137) rfl rfl ?_
      refine g_goto X43 hx (q := 142) (hb hby at_138) (by decide) (by decide) ?_
      refine g_istore X43 hx (Ls' := #[.val (.int p0), .val (.int p1), .val (.int p2), .val (.int p3), .val (.int p4), .val (.int p5), .val (.int (3 : Int32)), .val (.int (0 : Int32)), .val (.ref b32), .val (.int (1 : Int32))]) (hb hby at_142) rfl rfl ?_
      refine g_iload X43 hx (hb hby at_144) rfl rfl ?_
      refine g_iconst X43 hx (r := (3 : Int32)) (hb hby at_146) rfl rfl ?_
      refine g_icmpN X43 hx (hb hby at_147) rfl (XT.ii_lt_f (by decide : ¬ (3 : Int32) < (3 : Int32))) ?_
      refine g_iload X43 hx (hb hby at_150) rfl rfl ?_
      refine g_ifN X43 hx (hb hby at_152) rfl (XT.i0_eq_f (by decide : ¬ (1 : Int32) = (0 : Int32))) ?_
      refine g_aload X43 hx (hb hby at_155) rfl rfl rfl ?_
      refine g_iconst X43 hx (r := (2 : Int32)) (hb hby at_157) rfl rfl ?_
      refine g_virtual X43 hx hZ hown (hw _ (List.mem_of_getElem? (i := 38) rfl)) (hw _ (List.mem_of_getElem? (i := 39) rfl)) (notFace_of_selects (args := #[]) (mvT hZ (hw _ (List.mem_of_getElem? (i := 41) rfl)))) (hw _ (List.mem_of_getElem? (i := 41) rfl)) (hw _ (List.mem_of_getElem? (i := 40) rfl)) (hw _ (List.mem_of_getElem? (i := 3) rfl)) (hw _ (List.mem_of_getElem? (i := 42) rfl)) (by decide) (a := b32) f40 (rm_get l Z a0 hw b32 b_33 ka_33 (3 : Int32) [(.int p3), (.int p1), (.int p2), (.int (0 : Int32)), (.int (0 : Int32)), (.int (0 : Int32)), (.int (0 : Int32)), (.int (0 : Int32)), (.int (0 : Int32)), (.int (0 : Int32)), (.int (0 : Int32)), (.int (0 : Int32)), (.int (0 : Int32)), (.int (0 : Int32)), (.int (0 : Int32)), (.int (0 : Int32))] (2 : Int32) p2 T37.heap n0 Z37 f39 f42 pv37_0 (by first | decide | assumption | rfl) (by first | decide | assumption | rfl) (by first | decide | assumption | rfl) (by first | decide | assumption | rfl)) (by rw [hml]; rfl) eh43 [(.int (2 : Int32))] rfl rfl (W := 0) (Nat.le_of_eq rfl) (by decide) (by decide) (by decide) (by decide) (lenOf pd_6 rfl) (hb hby at_158) rfl fun v44 T44 L44 X44 hQ44 => ?_
      obtain ⟨rfl, Nq44, eh44⟩ := hQ44
      have N44 := Fr.app N43 Nq44
      show Ga _ _ _ _ _ _ _ _ _ _ _ [(.int p2)]
      refine g_iload X44 hx (hb hby at_161) rfl rfl ?_
      refine g_iconst X44 hx (r := (2 : Int32)) (hb hby at_163) rfl rfl ?_
      refine g_icmpY X44 hx (q := 171) (hb hby at_164) (XT.ii_ne_t (by decide : ¬ (0 : Int32) = (2 : Int32))) (by decide) (by decide) ?_
      refine g_iloadN X44 hx (hb hby at_171) rfl rfl ?_
      refine g_icmpN X44 hx (hb hby at_172) rfl (XT.ii_ne_f rfl) ?_
      refine g_iconst X44 hx (r := (1 : Int32)) (hb hby at_175) rfl rfl ?_
      refine g_goto X44 hx (q := 180) (hb hby at_176) (by decide) (by decide) ?_
      refine g_istore X44 hx (Ls' := #[.val (.int p0), .val (.int p1), .val (.int p2), .val (.int p3), .val (.int p4), .val (.int p5), .val (.int (3 : Int32)), .val (.int (0 : Int32)), .val (.ref b32), .val (.int (1 : Int32))]) (hb hby at_180) rfl rfl ?_
      refine g_iload X44 hx (hb hby at_182) rfl rfl ?_
      exact g_retN X44 hx (t := .boolean) (r := (1 : Int32)) hret (by simp) hlk (hb hby at_184) rfl (by decide) (by decide) (by rw [eh44]; exact ⟨rfl, N44⟩)
    · skip
      refine g_new X0 hx hZ hown (hw _ (List.mem_of_getElem? (i := 1) rfl)) (hw _ (List.mem_of_getElem? (i := 2) rfl)) (hw _ (List.mem_of_getElem? (i := 3) rfl)) e0 (hb hby at_21) rfl (by decide) (by decide) fun T45 h45 b45 X45 e45 q45 E45 A45 D45 => ?_
      have g_b45 : n0 ≤ b45 := Nat.le_trans Z0 (Nat.le_of_eq q45.symm)
      have Z45 : n0 ≤ h45.size := Nat.le_trans Z0 E45.1
      have F45_m_aValues : Fld Z h45 b45 "com/example/dunlin/dunlin/IntList" "m_aValues" "[I" .null := D45 (Or.inl (hw _ (List.mem_of_getElem? (i := 12) rfl))) (ty := (.array .int)) (by decide)
      have F45_m_nSize : Fld Z h45 b45 "com/example/dunlin/dunlin/IntList" "m_nSize" "I" (.int (0 : Int32)) := D45 (Or.inl (hw _ (List.mem_of_getElem? (i := 19) rfl))) (ty := .int) (by decide)
      refine g_dup X45 hx (hb hby at_24) rfl rfl ?_
      refine g_special X45 hx hZ hown rfl (hw _ (List.mem_of_getElem? (i := 4) rfl)) (hw _ (List.mem_of_getElem? (i := 5) rfl)) (hw _ (List.mem_of_getElem? (i := 3) rfl)) (hw _ (List.mem_of_getElem? (i := 6) rfl)) (by decide) (a := b45) (rm_ini l Z a0 hw b45 h45 n0 Z45 F45_m_aValues F45_m_nSize A45 g_b45) (by rw [hml]; rfl) e45 [] rfl rfl (W := 1) (Nat.le_of_eq rfl) (by decide) (by decide) (by decide) (by decide) (lenOf pd_2 rfl) (hb hby at_25) rfl fun v46 T46 L46 X46 hQ46 => ?_
      obtain ⟨b_46, ka_46, rfl, Nq46, kc46, p46_0, p46_1, p46_2, p46_3, p46_4, p46_5⟩ := hQ46
      have N46 := Fr.app N0 Nq46
      have ne_b45_b_46 : b45 ≠ b_46 := own_neK A45.lt p46_1
      have g_b_46 : n0 ≤ b_46 := Nat.le_trans Z45 p46_1
      have Z46 : n0 ≤ T46.heap.size := Nat.le_trans Z45 kc46.1
      have pv46_5 : Arv Z T46.heap b_46 ka_46 .int (16 : Int32) [(.int (0 : Int32)), (.int (0 : Int32)), (.int (0 : Int32)), (.int (0 : Int32)), (.int (0 : Int32)), (.int (0 : Int32)), (.int (0 : Int32)), (.int (0 : Int32)), (.int (0 : Int32)), (.int (0 : Int32)), (.int (0 : Int32)), (.int (0 : Int32)), (.int (0 : Int32)), (.int (0 : Int32)), (.int (0 : Int32)), (.int (0 : Int32))] (.int (0 : Int32)) := p46_5
      show Ga _ _ _ _ _ _ _ _ _ _ _ [(.ref b45)]
      refine g_astore X46 hx (Ls' := #[.val (.int p0), .val (.int p1), .val (.int p2), .val (.int p3), .val (.int p4), .val (.int p5), .val (.int (3 : Int32)), .val (.int (1 : Int32)), .val (.ref b45), .unset]) (hb hby at_28) rfl rfl rfl ?_
      refine g_aload X46 hx (hb hby at_30) rfl rfl rfl ?_
      refine g_iloadN X46 hx (hb hby at_32) rfl rfl ?_
      refine g_virtual X46 hx hZ hown (hw _ (List.mem_of_getElem? (i := 13) rfl)) (hw _ (List.mem_of_getElem? (i := 14) rfl)) (notFace_of_selects (args := #[]) (mvT hZ (hw _ (List.mem_of_getElem? (i := 16) rfl)))) (hw _ (List.mem_of_getElem? (i := 16) rfl)) (hw _ (List.mem_of_getElem? (i := 15) rfl)) (hw _ (List.mem_of_getElem? (i := 3) rfl)) (hw _ (List.mem_of_getElem? (i := 17) rfl)) (by decide) (a := b45) p46_0 (rm_add l Z a0 hw b45 b_46 ka_46 (0 : Int32) [(.int (0 : Int32)), (.int (0 : Int32)), (.int (0 : Int32)), (.int (0 : Int32)), (.int (0 : Int32)), (.int (0 : Int32)), (.int (0 : Int32)), (.int (0 : Int32)), (.int (0 : Int32)), (.int (0 : Int32)), (.int (0 : Int32)), (.int (0 : Int32)), (.int (0 : Int32)), (.int (0 : Int32)), (.int (0 : Int32)), (.int (0 : Int32))] p0 T46.heap n0 Z46 p46_4 p46_3 pv46_5 p46_0 g_b45 g_b_46 p46_2 (by first | decide | assumption | rfl) (by first | decide | assumption | rfl) (by first | decide | assumption | rfl)) (by rw [hml]; rfl) rfl [(.int p0)] rfl rfl (W := 0) (Nat.le_of_eq rfl) (by decide) (by decide) (by decide) (by decide) (lenOf pd_3 rfl) (hb hby at_33) rfl fun v47 T47 L47 X47 hQ47 => ?_
      obtain ⟨rfl, Nq47, kc47, p47_0, p47_1, p47_2, p47_3⟩ := hQ47
      have N47 := Fr.app N46 Nq47
      have Z47 : n0 ≤ T47.heap.size := Nat.le_trans Z46 kc47.1
      have pv47_2 : Fld Z T47.heap b45 "com/example/dunlin/dunlin/IntList" "m_nSize" "I" (.int (1 : Int32)) := p47_2
      have pv47_3 : Arv Z T47.heap b_46 ka_46 .int (16 : Int32) [(.int p0), (.int (0 : Int32)), (.int (0 : Int32)), (.int (0 : Int32)), (.int (0 : Int32)), (.int (0 : Int32)), (.int (0 : Int32)), (.int (0 : Int32)), (.int (0 : Int32)), (.int (0 : Int32)), (.int (0 : Int32)), (.int (0 : Int32)), (.int (0 : Int32)), (.int (0 : Int32)), (.int (0 : Int32)), (.int (0 : Int32))] (.int (0 : Int32)) := p47_3
      show Ga _ _ _ _ _ _ _ _ _ _ _ []
      refine g_iload X47 hx (hb hby at_36) rfl rfl ?_
      refine g_iconst X47 hx (r := (2 : Int32)) (hb hby at_38) rfl rfl ?_
      refine g_icmpN X47 hx (hb hby at_39) rfl (XT.ii_lt_f (by decide : ¬ (3 : Int32) < (2 : Int32))) ?_
      refine g_aload X47 hx (hb hby at_42) rfl rfl rfl ?_
      refine g_iloadN X47 hx (hb hby at_44) rfl rfl ?_
      refine g_virtual X47 hx hZ hown (hw _ (List.mem_of_getElem? (i := 13) rfl)) (hw _ (List.mem_of_getElem? (i := 14) rfl)) (notFace_of_selects (args := #[]) (mvT hZ (hw _ (List.mem_of_getElem? (i := 16) rfl)))) (hw _ (List.mem_of_getElem? (i := 16) rfl)) (hw _ (List.mem_of_getElem? (i := 15) rfl)) (hw _ (List.mem_of_getElem? (i := 3) rfl)) (hw _ (List.mem_of_getElem? (i := 17) rfl)) (by decide) (a := b45) p47_0 (rm_add l Z a0 hw b45 b_46 ka_46 (1 : Int32) [(.int p0), (.int (0 : Int32)), (.int (0 : Int32)), (.int (0 : Int32)), (.int (0 : Int32)), (.int (0 : Int32)), (.int (0 : Int32)), (.int (0 : Int32)), (.int (0 : Int32)), (.int (0 : Int32)), (.int (0 : Int32)), (.int (0 : Int32)), (.int (0 : Int32)), (.int (0 : Int32)), (.int (0 : Int32)), (.int (0 : Int32))] p1 T47.heap n0 Z47 pv47_2 p47_1 pv47_3 p47_0 g_b45 g_b_46 p46_2 (by first | decide | assumption | rfl) (by first | decide | assumption | rfl) (by first | decide | assumption | rfl)) (by rw [hml]; rfl) rfl [(.int p1)] rfl rfl (W := 0) (Nat.le_of_eq rfl) (by decide) (by decide) (by decide) (by decide) (lenOf pd_3 rfl) (hb hby at_45) rfl fun v48 T48 L48 X48 hQ48 => ?_
      obtain ⟨rfl, Nq48, kc48, p48_0, p48_1, p48_2, p48_3⟩ := hQ48
      have N48 := Fr.app N47 Nq48
      have Z48 : n0 ≤ T48.heap.size := Nat.le_trans Z47 kc48.1
      have pv48_2 : Fld Z T48.heap b45 "com/example/dunlin/dunlin/IntList" "m_nSize" "I" (.int (2 : Int32)) := p48_2
      have pv48_3 : Arv Z T48.heap b_46 ka_46 .int (16 : Int32) [(.int p0), (.int p1), (.int (0 : Int32)), (.int (0 : Int32)), (.int (0 : Int32)), (.int (0 : Int32)), (.int (0 : Int32)), (.int (0 : Int32)), (.int (0 : Int32)), (.int (0 : Int32)), (.int (0 : Int32)), (.int (0 : Int32)), (.int (0 : Int32)), (.int (0 : Int32)), (.int (0 : Int32)), (.int (0 : Int32))] (.int (0 : Int32)) := p48_3
      show Ga _ _ _ _ _ _ _ _ _ _ _ []
      refine g_iload X48 hx (hb hby at_48) rfl rfl ?_
      refine g_iconst X48 hx (r := (3 : Int32)) (hb hby at_50) rfl rfl ?_
      refine g_icmpN X48 hx (hb hby at_51) rfl (XT.ii_lt_f (by decide : ¬ (3 : Int32) < (3 : Int32))) ?_
      refine g_aload X48 hx (hb hby at_54) rfl rfl rfl ?_
      refine g_iloadN X48 hx (hb hby at_56) rfl rfl ?_
      refine g_virtual X48 hx hZ hown (hw _ (List.mem_of_getElem? (i := 13) rfl)) (hw _ (List.mem_of_getElem? (i := 14) rfl)) (notFace_of_selects (args := #[]) (mvT hZ (hw _ (List.mem_of_getElem? (i := 16) rfl)))) (hw _ (List.mem_of_getElem? (i := 16) rfl)) (hw _ (List.mem_of_getElem? (i := 15) rfl)) (hw _ (List.mem_of_getElem? (i := 3) rfl)) (hw _ (List.mem_of_getElem? (i := 17) rfl)) (by decide) (a := b45) p48_0 (rm_add l Z a0 hw b45 b_46 ka_46 (2 : Int32) [(.int p0), (.int p1), (.int (0 : Int32)), (.int (0 : Int32)), (.int (0 : Int32)), (.int (0 : Int32)), (.int (0 : Int32)), (.int (0 : Int32)), (.int (0 : Int32)), (.int (0 : Int32)), (.int (0 : Int32)), (.int (0 : Int32)), (.int (0 : Int32)), (.int (0 : Int32)), (.int (0 : Int32)), (.int (0 : Int32))] p2 T48.heap n0 Z48 pv48_2 p48_1 pv48_3 p48_0 g_b45 g_b_46 p46_2 (by first | decide | assumption | rfl) (by first | decide | assumption | rfl) (by first | decide | assumption | rfl)) (by rw [hml]; rfl) rfl [(.int p2)] rfl rfl (W := 0) (Nat.le_of_eq rfl) (by decide) (by decide) (by decide) (by decide) (lenOf pd_3 rfl) (hb hby at_57) rfl fun v49 T49 L49 X49 hQ49 => ?_
      obtain ⟨rfl, Nq49, kc49, p49_0, p49_1, p49_2, p49_3⟩ := hQ49
      have N49 := Fr.app N48 Nq49
      have Z49 : n0 ≤ T49.heap.size := Nat.le_trans Z48 kc49.1
      have pv49_2 : Fld Z T49.heap b45 "com/example/dunlin/dunlin/IntList" "m_nSize" "I" (.int (3 : Int32)) := p49_2
      have pv49_3 : Arv Z T49.heap b_46 ka_46 .int (16 : Int32) [(.int p0), (.int p1), (.int p2), (.int (0 : Int32)), (.int (0 : Int32)), (.int (0 : Int32)), (.int (0 : Int32)), (.int (0 : Int32)), (.int (0 : Int32)), (.int (0 : Int32)), (.int (0 : Int32)), (.int (0 : Int32)), (.int (0 : Int32)), (.int (0 : Int32)), (.int (0 : Int32)), (.int (0 : Int32))] (.int (0 : Int32)) := p49_3
      show Ga _ _ _ _ _ _ _ _ _ _ _ []
      refine g_aload X49 hx (hb hby at_60) rfl rfl rfl ?_
      refine g_iload X49 hx (hb hby at_62) rfl rfl ?_
      refine g_iloadN X49 hx (hb hby at_64) rfl rfl ?_
      refine g_virtual X49 hx hZ hown (hw _ (List.mem_of_getElem? (i := 20) rfl)) (hw _ (List.mem_of_getElem? (i := 21) rfl)) (notFace_of_selects (args := #[]) (mvT hZ (hw _ (List.mem_of_getElem? (i := 23) rfl)))) (hw _ (List.mem_of_getElem? (i := 23) rfl)) (hw _ (List.mem_of_getElem? (i := 22) rfl)) (hw _ (List.mem_of_getElem? (i := 3) rfl)) (hw _ (List.mem_of_getElem? (i := 24) rfl)) (by decide) (a := b45) p49_0 (rm_set l Z a0 hw b45 b_46 ka_46 (3 : Int32) [(.int p0), (.int p1), (.int p2), (.int (0 : Int32)), (.int (0 : Int32)), (.int (0 : Int32)), (.int (0 : Int32)), (.int (0 : Int32)), (.int (0 : Int32)), (.int (0 : Int32)), (.int (0 : Int32)), (.int (0 : Int32)), (.int (0 : Int32)), (.int (0 : Int32)), (.int (0 : Int32)), (.int (0 : Int32))] (1 : Int32) p3 T49.heap n0 Z49 pv49_2 p49_1 pv49_3 g_b_46 (by first | decide | assumption | rfl) (by first | decide | assumption | rfl) (by first | decide | assumption | rfl) (by first | decide | assumption | rfl)) (by rw [hml]; rfl) rfl [(.int (1 : Int32)), (.int p3)] rfl rfl (W := 0) (Nat.le_of_eq rfl) (by decide) (by decide) (by decide) (by decide) (lenOf pd_4 rfl) (hb hby at_65) rfl fun v50 T50 L50 X50 hQ50 => ?_
      obtain ⟨rfl, Nq50, kc50, p50_0⟩ := hQ50
      have N50 := Fr.app N49 Nq50
      have Z50 : n0 ≤ T50.heap.size := Nat.le_trans Z49 kc50.1
      have pv50_0 : Arv Z T50.heap b_46 ka_46 .int (16 : Int32) [(.int p0), (.int p3), (.int p2), (.int (0 : Int32)), (.int (0 : Int32)), (.int (0 : Int32)), (.int (0 : Int32)), (.int (0 : Int32)), (.int (0 : Int32)), (.int (0 : Int32)), (.int (0 : Int32)), (.int (0 : Int32)), (.int (0 : Int32)), (.int (0 : Int32)), (.int (0 : Int32)), (.int (0 : Int32))] (.int (0 : Int32)) := p50_0
      show Ga _ _ _ _ _ _ _ _ _ _ _ []
      refine g_aload X50 hx (hb hby at_68) rfl rfl rfl ?_
      have f52 : Fld Z T50.heap b45 "com/example/dunlin/dunlin/IntList" "m_nSize" "I" (.int (3 : Int32)) := (pv49_2.keep kc50 (ninS p46_2 nin0))
      have f53 : Exa Z T50.heap b45 "com/example/dunlin/dunlin/IntList" := (p49_0.keep kc50)
      refine g_virtual X50 hx hZ hown (hw _ (List.mem_of_getElem? (i := 33) rfl)) (hw _ (List.mem_of_getElem? (i := 34) rfl)) (notFace_of_selects (args := #[]) (mvT hZ (hw _ (List.mem_of_getElem? (i := 36) rfl)))) (hw _ (List.mem_of_getElem? (i := 36) rfl)) (hw _ (List.mem_of_getElem? (i := 35) rfl)) (hw _ (List.mem_of_getElem? (i := 3) rfl)) (hw _ (List.mem_of_getElem? (i := 37) rfl)) (by decide) (a := b45) f53 (rm_size l Z a0 hw b45 (3 : Int32) T50.heap n0 Z50 f52) (by rw [hml]; rfl) rfl [] rfl rfl (W := 0) (Nat.le_of_eq rfl) (by decide) (by decide) (by decide) (by decide) (lenOf pd_5 rfl) (hb hby at_70) rfl fun v51 T51 L51 X51 hQ51 => ?_
      obtain ⟨rfl, Nq51, eh51⟩ := hQ51
      have N51 := Fr.app N50 Nq51
      show Ga _ _ _ _ _ _ _ _ _ _ _ [(.int (3 : Int32))]
      refine g_iload X51 hx (hb hby at_73) rfl rfl ?_
      refine g_icmpY X51 hx (q := 80) (hb hby at_75) (XT.ii_eq_t (by decide : (3 : Int32) = (3 : Int32))) (by decide) (by decide) ?_
      refine g_aload X51 hx (hb hby at_80) rfl rfl rfl ?_
      refine g_iconst X51 hx (r := (0 : Int32)) (hb hby at_82) rfl rfl ?_
      have f55 : Fld Z T50.heap b45 "com/example/dunlin/dunlin/IntList" "m_aValues" "[I" (.ref b_46) := (p49_1.keep kc50 (ninS p46_2 nin0))
      refine g_virtual X51 hx hZ hown (hw _ (List.mem_of_getElem? (i := 38) rfl)) (hw _ (List.mem_of_getElem? (i := 39) rfl)) (notFace_of_selects (args := #[]) (mvT hZ (hw _ (List.mem_of_getElem? (i := 41) rfl)))) (hw _ (List.mem_of_getElem? (i := 41) rfl)) (hw _ (List.mem_of_getElem? (i := 40) rfl)) (hw _ (List.mem_of_getElem? (i := 3) rfl)) (hw _ (List.mem_of_getElem? (i := 42) rfl)) (by decide) (a := b45) f53 (rm_get l Z a0 hw b45 b_46 ka_46 (3 : Int32) [(.int p0), (.int p3), (.int p2), (.int (0 : Int32)), (.int (0 : Int32)), (.int (0 : Int32)), (.int (0 : Int32)), (.int (0 : Int32)), (.int (0 : Int32)), (.int (0 : Int32)), (.int (0 : Int32)), (.int (0 : Int32)), (.int (0 : Int32)), (.int (0 : Int32)), (.int (0 : Int32)), (.int (0 : Int32))] (0 : Int32) p0 T50.heap n0 Z50 f52 f55 pv50_0 (by first | decide | assumption | rfl) (by first | decide | assumption | rfl) (by first | decide | assumption | rfl) (by first | decide | assumption | rfl)) (by rw [hml]; rfl) eh51 [(.int (0 : Int32))] rfl rfl (W := 0) (Nat.le_of_eq rfl) (by decide) (by decide) (by decide) (by decide) (lenOf pd_6 rfl) (hb hby at_83) rfl fun v54 T54 L54 X54 hQ54 => ?_
      obtain ⟨rfl, Nq54, eh54⟩ := hQ54
      have N54 := Fr.app N51 Nq54
      show Ga _ _ _ _ _ _ _ _ _ _ _ [(.int p0)]
      refine g_iload X54 hx (hb hby at_86) rfl rfl ?_
      refine g_ifY X54 hx (q := 95) (hb hby at_88) (XT.i0_ne_t (by decide : ¬ (1 : Int32) = (0 : Int32))) (by decide) (by decide) ?_
      refine g_iloadN X54 hx (hb hby at_95) rfl rfl ?_
      refine g_icmpN X54 hx (hb hby at_96) rfl (XT.ii_ne_f rfl) ?_
      refine g_iconst X54 hx (r := (1 : Int32)) (hb hby at_99) rfl rfl ?_
      refine g_goto X54 hx (q := 104) (hb hby at_100) (by decide) (by decide) ?_
      refine g_istore X54 hx (Ls' := #[.val (.int p0), .val (.int p1), .val (.int p2), .val (.int p3), .val (.int p4), .val (.int p5), .val (.int (3 : Int32)), .val (.int (1 : Int32)), .val (.ref b45), .val (.int (1 : Int32))]) (hb hby at_104) rfl rfl ?_
      refine g_iload X54 hx (hb hby at_106) rfl rfl ?_
      refine g_iconst X54 hx (r := (2 : Int32)) (hb hby at_108) rfl rfl ?_
      refine g_icmpN X54 hx (hb hby at_109) rfl (XT.ii_lt_f (by decide : ¬ (3 : Int32) < (2 : Int32))) ?_
      refine g_iload X54 hx (hb hby at_112) rfl rfl ?_
      refine g_ifN X54 hx (hb hby at_114) rfl (XT.i0_eq_f (by decide : ¬ (1 : Int32) = (0 : Int32))) ?_
      refine g_aload X54 hx (hb hby at_117) rfl rfl rfl ?_
      refine g_iconst X54 hx (r := (1 : Int32)) (hb hby at_119) rfl rfl ?_
      refine g_virtual X54 hx hZ hown (hw _ (List.mem_of_getElem? (i := 38) rfl)) (hw _ (List.mem_of_getElem? (i := 39) rfl)) (notFace_of_selects (args := #[]) (mvT hZ (hw _ (List.mem_of_getElem? (i := 41) rfl)))) (hw _ (List.mem_of_getElem? (i := 41) rfl)) (hw _ (List.mem_of_getElem? (i := 40) rfl)) (hw _ (List.mem_of_getElem? (i := 3) rfl)) (hw _ (List.mem_of_getElem? (i := 42) rfl)) (by decide) (a := b45) f53 (rm_get l Z a0 hw b45 b_46 ka_46 (3 : Int32) [(.int p0), (.int p3), (.int p2), (.int (0 : Int32)), (.int (0 : Int32)), (.int (0 : Int32)), (.int (0 : Int32)), (.int (0 : Int32)), (.int (0 : Int32)), (.int (0 : Int32)), (.int (0 : Int32)), (.int (0 : Int32)), (.int (0 : Int32)), (.int (0 : Int32)), (.int (0 : Int32)), (.int (0 : Int32))] (1 : Int32) p3 T50.heap n0 Z50 f52 f55 pv50_0 (by first | decide | assumption | rfl) (by first | decide | assumption | rfl) (by first | decide | assumption | rfl) (by first | decide | assumption | rfl)) (by rw [hml]; rfl) eh54 [(.int (1 : Int32))] rfl rfl (W := 0) (Nat.le_of_eq rfl) (by decide) (by decide) (by decide) (by decide) (lenOf pd_6 rfl) (hb hby at_120) rfl fun v56 T56 L56 X56 hQ56 => ?_
      obtain ⟨rfl, Nq56, eh56⟩ := hQ56
      have N56 := Fr.app N54 Nq56
      show Ga _ _ _ _ _ _ _ _ _ _ _ [(.int p3)]
      refine g_iload X56 hx (hb hby at_123) rfl rfl ?_
      refine g_iconst X56 hx (r := (1 : Int32)) (hb hby at_125) rfl rfl ?_
      refine g_icmpN X56 hx (hb hby at_126) rfl (XT.ii_ne_f (by decide : (1 : Int32) = (1 : Int32))) ?_
      refine g_iloadN X56 hx (hb hby at_129) rfl rfl ?_
      refine g_goto X56 hx (q := 134) (hb hby at_130) (by decide) (by decide) ?_
      refine g_icmpN X56 hx (hb hby at_134) rfl (XT.ii_ne_f rfl) ?_
      refine g_iconst X56 hx (r := (1 : Int32)) (hb hby at_137) rfl rfl ?_
      refine g_goto X56 hx (q := 142) (hb hby at_138) (by decide) (by decide) ?_
      refine g_istore X56 hx (Ls' := #[.val (.int p0), .val (.int p1), .val (.int p2), .val (.int p3), .val (.int p4), .val (.int p5), .val (.int (3 : Int32)), .val (.int (1 : Int32)), .val (.ref b45), .val (.int (1 : Int32))]) (hb hby at_142) rfl rfl ?_
      refine g_iload X56 hx (hb hby at_144) rfl rfl ?_
      refine g_iconst X56 hx (r := (3 : Int32)) (hb hby at_146) rfl rfl ?_
      refine g_icmpN X56 hx (hb hby at_147) rfl (XT.ii_lt_f (by decide : ¬ (3 : Int32) < (3 : Int32))) ?_
      refine g_iload X56 hx (hb hby at_150) rfl rfl ?_
      refine g_ifN X56 hx (hb hby at_152) rfl (XT.i0_eq_f (by decide : ¬ (1 : Int32) = (0 : Int32))) ?_
      refine g_aload X56 hx (hb hby at_155) rfl rfl rfl ?_
      refine g_iconst X56 hx (r := (2 : Int32)) (hb hby at_157) rfl rfl ?_
      refine g_virtual X56 hx hZ hown (hw _ (List.mem_of_getElem? (i := 38) rfl)) (hw _ (List.mem_of_getElem? (i := 39) rfl)) (notFace_of_selects (args := #[]) (mvT hZ (hw _ (List.mem_of_getElem? (i := 41) rfl)))) (hw _ (List.mem_of_getElem? (i := 41) rfl)) (hw _ (List.mem_of_getElem? (i := 40) rfl)) (hw _ (List.mem_of_getElem? (i := 3) rfl)) (hw _ (List.mem_of_getElem? (i := 42) rfl)) (by decide) (a := b45) f53 (rm_get l Z a0 hw b45 b_46 ka_46 (3 : Int32) [(.int p0), (.int p3), (.int p2), (.int (0 : Int32)), (.int (0 : Int32)), (.int (0 : Int32)), (.int (0 : Int32)), (.int (0 : Int32)), (.int (0 : Int32)), (.int (0 : Int32)), (.int (0 : Int32)), (.int (0 : Int32)), (.int (0 : Int32)), (.int (0 : Int32)), (.int (0 : Int32)), (.int (0 : Int32))] (2 : Int32) p2 T50.heap n0 Z50 f52 f55 pv50_0 (by first | decide | assumption | rfl) (by first | decide | assumption | rfl) (by first | decide | assumption | rfl) (by first | decide | assumption | rfl)) (by rw [hml]; rfl) eh56 [(.int (2 : Int32))] rfl rfl (W := 0) (Nat.le_of_eq rfl) (by decide) (by decide) (by decide) (by decide) (lenOf pd_6 rfl) (hb hby at_158) rfl fun v57 T57 L57 X57 hQ57 => ?_
      obtain ⟨rfl, Nq57, eh57⟩ := hQ57
      have N57 := Fr.app N56 Nq57
      show Ga _ _ _ _ _ _ _ _ _ _ _ [(.int p2)]
      refine g_iload X57 hx (hb hby at_161) rfl rfl ?_
      refine g_iconst X57 hx (r := (2 : Int32)) (hb hby at_163) rfl rfl ?_
      refine g_icmpY X57 hx (q := 171) (hb hby at_164) (XT.ii_ne_t (by decide : ¬ (1 : Int32) = (2 : Int32))) (by decide) (by decide) ?_
      refine g_iloadN X57 hx (hb hby at_171) rfl rfl ?_
      refine g_icmpN X57 hx (hb hby at_172) rfl (XT.ii_ne_f rfl) ?_
      refine g_iconst X57 hx (r := (1 : Int32)) (hb hby at_175) rfl rfl ?_
      refine g_goto X57 hx (q := 180) (hb hby at_176) (by decide) (by decide) ?_
      refine g_istore X57 hx (Ls' := #[.val (.int p0), .val (.int p1), .val (.int p2), .val (.int p3), .val (.int p4), .val (.int p5), .val (.int (3 : Int32)), .val (.int (1 : Int32)), .val (.ref b45), .val (.int (1 : Int32))]) (hb hby at_180) rfl rfl ?_
      refine g_iload X57 hx (hb hby at_182) rfl rfl ?_
      exact g_retN X57 hx (t := .boolean) (r := (1 : Int32)) hret (by simp) hlk (hb hby at_184) rfl (by decide) (by decide) (by rw [eh57]; exact ⟨rfl, N57⟩)
    · skip
      refine g_new X0 hx hZ hown (hw _ (List.mem_of_getElem? (i := 1) rfl)) (hw _ (List.mem_of_getElem? (i := 2) rfl)) (hw _ (List.mem_of_getElem? (i := 3) rfl)) e0 (hb hby at_21) rfl (by decide) (by decide) fun T58 h58 b58 X58 e58 q58 E58 A58 D58 => ?_
      have g_b58 : n0 ≤ b58 := Nat.le_trans Z0 (Nat.le_of_eq q58.symm)
      have Z58 : n0 ≤ h58.size := Nat.le_trans Z0 E58.1
      have F58_m_aValues : Fld Z h58 b58 "com/example/dunlin/dunlin/IntList" "m_aValues" "[I" .null := D58 (Or.inl (hw _ (List.mem_of_getElem? (i := 12) rfl))) (ty := (.array .int)) (by decide)
      have F58_m_nSize : Fld Z h58 b58 "com/example/dunlin/dunlin/IntList" "m_nSize" "I" (.int (0 : Int32)) := D58 (Or.inl (hw _ (List.mem_of_getElem? (i := 19) rfl))) (ty := .int) (by decide)
      refine g_dup X58 hx (hb hby at_24) rfl rfl ?_
      refine g_special X58 hx hZ hown rfl (hw _ (List.mem_of_getElem? (i := 4) rfl)) (hw _ (List.mem_of_getElem? (i := 5) rfl)) (hw _ (List.mem_of_getElem? (i := 3) rfl)) (hw _ (List.mem_of_getElem? (i := 6) rfl)) (by decide) (a := b58) (rm_ini l Z a0 hw b58 h58 n0 Z58 F58_m_aValues F58_m_nSize A58 g_b58) (by rw [hml]; rfl) e58 [] rfl rfl (W := 1) (Nat.le_of_eq rfl) (by decide) (by decide) (by decide) (by decide) (lenOf pd_2 rfl) (hb hby at_25) rfl fun v59 T59 L59 X59 hQ59 => ?_
      obtain ⟨b_59, ka_59, rfl, Nq59, kc59, p59_0, p59_1, p59_2, p59_3, p59_4, p59_5⟩ := hQ59
      have N59 := Fr.app N0 Nq59
      have ne_b58_b_59 : b58 ≠ b_59 := own_neK A58.lt p59_1
      have g_b_59 : n0 ≤ b_59 := Nat.le_trans Z58 p59_1
      have Z59 : n0 ≤ T59.heap.size := Nat.le_trans Z58 kc59.1
      have pv59_5 : Arv Z T59.heap b_59 ka_59 .int (16 : Int32) [(.int (0 : Int32)), (.int (0 : Int32)), (.int (0 : Int32)), (.int (0 : Int32)), (.int (0 : Int32)), (.int (0 : Int32)), (.int (0 : Int32)), (.int (0 : Int32)), (.int (0 : Int32)), (.int (0 : Int32)), (.int (0 : Int32)), (.int (0 : Int32)), (.int (0 : Int32)), (.int (0 : Int32)), (.int (0 : Int32)), (.int (0 : Int32))] (.int (0 : Int32)) := p59_5
      show Ga _ _ _ _ _ _ _ _ _ _ _ [(.ref b58)]
      refine g_astore X59 hx (Ls' := #[.val (.int p0), .val (.int p1), .val (.int p2), .val (.int p3), .val (.int p4), .val (.int p5), .val (.int (3 : Int32)), .val (.int (2 : Int32)), .val (.ref b58), .unset]) (hb hby at_28) rfl rfl rfl ?_
      refine g_aload X59 hx (hb hby at_30) rfl rfl rfl ?_
      refine g_iloadN X59 hx (hb hby at_32) rfl rfl ?_
      refine g_virtual X59 hx hZ hown (hw _ (List.mem_of_getElem? (i := 13) rfl)) (hw _ (List.mem_of_getElem? (i := 14) rfl)) (notFace_of_selects (args := #[]) (mvT hZ (hw _ (List.mem_of_getElem? (i := 16) rfl)))) (hw _ (List.mem_of_getElem? (i := 16) rfl)) (hw _ (List.mem_of_getElem? (i := 15) rfl)) (hw _ (List.mem_of_getElem? (i := 3) rfl)) (hw _ (List.mem_of_getElem? (i := 17) rfl)) (by decide) (a := b58) p59_0 (rm_add l Z a0 hw b58 b_59 ka_59 (0 : Int32) [(.int (0 : Int32)), (.int (0 : Int32)), (.int (0 : Int32)), (.int (0 : Int32)), (.int (0 : Int32)), (.int (0 : Int32)), (.int (0 : Int32)), (.int (0 : Int32)), (.int (0 : Int32)), (.int (0 : Int32)), (.int (0 : Int32)), (.int (0 : Int32)), (.int (0 : Int32)), (.int (0 : Int32)), (.int (0 : Int32)), (.int (0 : Int32))] p0 T59.heap n0 Z59 p59_4 p59_3 pv59_5 p59_0 g_b58 g_b_59 p59_2 (by first | decide | assumption | rfl) (by first | decide | assumption | rfl) (by first | decide | assumption | rfl)) (by rw [hml]; rfl) rfl [(.int p0)] rfl rfl (W := 0) (Nat.le_of_eq rfl) (by decide) (by decide) (by decide) (by decide) (lenOf pd_3 rfl) (hb hby at_33) rfl fun v60 T60 L60 X60 hQ60 => ?_
      obtain ⟨rfl, Nq60, kc60, p60_0, p60_1, p60_2, p60_3⟩ := hQ60
      have N60 := Fr.app N59 Nq60
      have Z60 : n0 ≤ T60.heap.size := Nat.le_trans Z59 kc60.1
      have pv60_2 : Fld Z T60.heap b58 "com/example/dunlin/dunlin/IntList" "m_nSize" "I" (.int (1 : Int32)) := p60_2
      have pv60_3 : Arv Z T60.heap b_59 ka_59 .int (16 : Int32) [(.int p0), (.int (0 : Int32)), (.int (0 : Int32)), (.int (0 : Int32)), (.int (0 : Int32)), (.int (0 : Int32)), (.int (0 : Int32)), (.int (0 : Int32)), (.int (0 : Int32)), (.int (0 : Int32)), (.int (0 : Int32)), (.int (0 : Int32)), (.int (0 : Int32)), (.int (0 : Int32)), (.int (0 : Int32)), (.int (0 : Int32))] (.int (0 : Int32)) := p60_3
      show Ga _ _ _ _ _ _ _ _ _ _ _ []
      refine g_iload X60 hx (hb hby at_36) rfl rfl ?_
      refine g_iconst X60 hx (r := (2 : Int32)) (hb hby at_38) rfl rfl ?_
      refine g_icmpN X60 hx (hb hby at_39) rfl (XT.ii_lt_f (by decide : ¬ (3 : Int32) < (2 : Int32))) ?_
      refine g_aload X60 hx (hb hby at_42) rfl rfl rfl ?_
      refine g_iloadN X60 hx (hb hby at_44) rfl rfl ?_
      refine g_virtual X60 hx hZ hown (hw _ (List.mem_of_getElem? (i := 13) rfl)) (hw _ (List.mem_of_getElem? (i := 14) rfl)) (notFace_of_selects (args := #[]) (mvT hZ (hw _ (List.mem_of_getElem? (i := 16) rfl)))) (hw _ (List.mem_of_getElem? (i := 16) rfl)) (hw _ (List.mem_of_getElem? (i := 15) rfl)) (hw _ (List.mem_of_getElem? (i := 3) rfl)) (hw _ (List.mem_of_getElem? (i := 17) rfl)) (by decide) (a := b58) p60_0 (rm_add l Z a0 hw b58 b_59 ka_59 (1 : Int32) [(.int p0), (.int (0 : Int32)), (.int (0 : Int32)), (.int (0 : Int32)), (.int (0 : Int32)), (.int (0 : Int32)), (.int (0 : Int32)), (.int (0 : Int32)), (.int (0 : Int32)), (.int (0 : Int32)), (.int (0 : Int32)), (.int (0 : Int32)), (.int (0 : Int32)), (.int (0 : Int32)), (.int (0 : Int32)), (.int (0 : Int32))] p1 T60.heap n0 Z60 pv60_2 p60_1 pv60_3 p60_0 g_b58 g_b_59 p59_2 (by first | decide | assumption | rfl) (by first | decide | assumption | rfl) (by first | decide | assumption | rfl)) (by rw [hml]; rfl) rfl [(.int p1)] rfl rfl (W := 0) (Nat.le_of_eq rfl) (by decide) (by decide) (by decide) (by decide) (lenOf pd_3 rfl) (hb hby at_45) rfl fun v61 T61 L61 X61 hQ61 => ?_
      obtain ⟨rfl, Nq61, kc61, p61_0, p61_1, p61_2, p61_3⟩ := hQ61
      have N61 := Fr.app N60 Nq61
      have Z61 : n0 ≤ T61.heap.size := Nat.le_trans Z60 kc61.1
      have pv61_2 : Fld Z T61.heap b58 "com/example/dunlin/dunlin/IntList" "m_nSize" "I" (.int (2 : Int32)) := p61_2
      have pv61_3 : Arv Z T61.heap b_59 ka_59 .int (16 : Int32) [(.int p0), (.int p1), (.int (0 : Int32)), (.int (0 : Int32)), (.int (0 : Int32)), (.int (0 : Int32)), (.int (0 : Int32)), (.int (0 : Int32)), (.int (0 : Int32)), (.int (0 : Int32)), (.int (0 : Int32)), (.int (0 : Int32)), (.int (0 : Int32)), (.int (0 : Int32)), (.int (0 : Int32)), (.int (0 : Int32))] (.int (0 : Int32)) := p61_3
      show Ga _ _ _ _ _ _ _ _ _ _ _ []
      refine g_iload X61 hx (hb hby at_48) rfl rfl ?_
      refine g_iconst X61 hx (r := (3 : Int32)) (hb hby at_50) rfl rfl ?_
      refine g_icmpN X61 hx (hb hby at_51) rfl (XT.ii_lt_f (by decide : ¬ (3 : Int32) < (3 : Int32))) ?_
      refine g_aload X61 hx (hb hby at_54) rfl rfl rfl ?_
      refine g_iloadN X61 hx (hb hby at_56) rfl rfl ?_
      refine g_virtual X61 hx hZ hown (hw _ (List.mem_of_getElem? (i := 13) rfl)) (hw _ (List.mem_of_getElem? (i := 14) rfl)) (notFace_of_selects (args := #[]) (mvT hZ (hw _ (List.mem_of_getElem? (i := 16) rfl)))) (hw _ (List.mem_of_getElem? (i := 16) rfl)) (hw _ (List.mem_of_getElem? (i := 15) rfl)) (hw _ (List.mem_of_getElem? (i := 3) rfl)) (hw _ (List.mem_of_getElem? (i := 17) rfl)) (by decide) (a := b58) p61_0 (rm_add l Z a0 hw b58 b_59 ka_59 (2 : Int32) [(.int p0), (.int p1), (.int (0 : Int32)), (.int (0 : Int32)), (.int (0 : Int32)), (.int (0 : Int32)), (.int (0 : Int32)), (.int (0 : Int32)), (.int (0 : Int32)), (.int (0 : Int32)), (.int (0 : Int32)), (.int (0 : Int32)), (.int (0 : Int32)), (.int (0 : Int32)), (.int (0 : Int32)), (.int (0 : Int32))] p2 T61.heap n0 Z61 pv61_2 p61_1 pv61_3 p61_0 g_b58 g_b_59 p59_2 (by first | decide | assumption | rfl) (by first | decide | assumption | rfl) (by first | decide | assumption | rfl)) (by rw [hml]; rfl) rfl [(.int p2)] rfl rfl (W := 0) (Nat.le_of_eq rfl) (by decide) (by decide) (by decide) (by decide) (lenOf pd_3 rfl) (hb hby at_57) rfl fun v62 T62 L62 X62 hQ62 => ?_
      obtain ⟨rfl, Nq62, kc62, p62_0, p62_1, p62_2, p62_3⟩ := hQ62
      have N62 := Fr.app N61 Nq62
      have Z62 : n0 ≤ T62.heap.size := Nat.le_trans Z61 kc62.1
      have pv62_2 : Fld Z T62.heap b58 "com/example/dunlin/dunlin/IntList" "m_nSize" "I" (.int (3 : Int32)) := p62_2
      have pv62_3 : Arv Z T62.heap b_59 ka_59 .int (16 : Int32) [(.int p0), (.int p1), (.int p2), (.int (0 : Int32)), (.int (0 : Int32)), (.int (0 : Int32)), (.int (0 : Int32)), (.int (0 : Int32)), (.int (0 : Int32)), (.int (0 : Int32)), (.int (0 : Int32)), (.int (0 : Int32)), (.int (0 : Int32)), (.int (0 : Int32)), (.int (0 : Int32)), (.int (0 : Int32))] (.int (0 : Int32)) := p62_3
      show Ga _ _ _ _ _ _ _ _ _ _ _ []
      refine g_aload X62 hx (hb hby at_60) rfl rfl rfl ?_
      refine g_iload X62 hx (hb hby at_62) rfl rfl ?_
      refine g_iloadN X62 hx (hb hby at_64) rfl rfl ?_
      refine g_virtual X62 hx hZ hown (hw _ (List.mem_of_getElem? (i := 20) rfl)) (hw _ (List.mem_of_getElem? (i := 21) rfl)) (notFace_of_selects (args := #[]) (mvT hZ (hw _ (List.mem_of_getElem? (i := 23) rfl)))) (hw _ (List.mem_of_getElem? (i := 23) rfl)) (hw _ (List.mem_of_getElem? (i := 22) rfl)) (hw _ (List.mem_of_getElem? (i := 3) rfl)) (hw _ (List.mem_of_getElem? (i := 24) rfl)) (by decide) (a := b58) p62_0 (rm_set l Z a0 hw b58 b_59 ka_59 (3 : Int32) [(.int p0), (.int p1), (.int p2), (.int (0 : Int32)), (.int (0 : Int32)), (.int (0 : Int32)), (.int (0 : Int32)), (.int (0 : Int32)), (.int (0 : Int32)), (.int (0 : Int32)), (.int (0 : Int32)), (.int (0 : Int32)), (.int (0 : Int32)), (.int (0 : Int32)), (.int (0 : Int32)), (.int (0 : Int32))] (2 : Int32) p3 T62.heap n0 Z62 pv62_2 p62_1 pv62_3 g_b_59 (by first | decide | assumption | rfl) (by first | decide | assumption | rfl) (by first | decide | assumption | rfl) (by first | decide | assumption | rfl)) (by rw [hml]; rfl) rfl [(.int (2 : Int32)), (.int p3)] rfl rfl (W := 0) (Nat.le_of_eq rfl) (by decide) (by decide) (by decide) (by decide) (lenOf pd_4 rfl) (hb hby at_65) rfl fun v63 T63 L63 X63 hQ63 => ?_
      obtain ⟨rfl, Nq63, kc63, p63_0⟩ := hQ63
      have N63 := Fr.app N62 Nq63
      have Z63 : n0 ≤ T63.heap.size := Nat.le_trans Z62 kc63.1
      have pv63_0 : Arv Z T63.heap b_59 ka_59 .int (16 : Int32) [(.int p0), (.int p1), (.int p3), (.int (0 : Int32)), (.int (0 : Int32)), (.int (0 : Int32)), (.int (0 : Int32)), (.int (0 : Int32)), (.int (0 : Int32)), (.int (0 : Int32)), (.int (0 : Int32)), (.int (0 : Int32)), (.int (0 : Int32)), (.int (0 : Int32)), (.int (0 : Int32)), (.int (0 : Int32))] (.int (0 : Int32)) := p63_0
      show Ga _ _ _ _ _ _ _ _ _ _ _ []
      refine g_aload X63 hx (hb hby at_68) rfl rfl rfl ?_
      have f65 : Fld Z T63.heap b58 "com/example/dunlin/dunlin/IntList" "m_nSize" "I" (.int (3 : Int32)) := (pv62_2.keep kc63 (ninS p59_2 nin0))
      have f66 : Exa Z T63.heap b58 "com/example/dunlin/dunlin/IntList" := (p62_0.keep kc63)
      refine g_virtual X63 hx hZ hown (hw _ (List.mem_of_getElem? (i := 33) rfl)) (hw _ (List.mem_of_getElem? (i := 34) rfl)) (notFace_of_selects (args := #[]) (mvT hZ (hw _ (List.mem_of_getElem? (i := 36) rfl)))) (hw _ (List.mem_of_getElem? (i := 36) rfl)) (hw _ (List.mem_of_getElem? (i := 35) rfl)) (hw _ (List.mem_of_getElem? (i := 3) rfl)) (hw _ (List.mem_of_getElem? (i := 37) rfl)) (by decide) (a := b58) f66 (rm_size l Z a0 hw b58 (3 : Int32) T63.heap n0 Z63 f65) (by rw [hml]; rfl) rfl [] rfl rfl (W := 0) (Nat.le_of_eq rfl) (by decide) (by decide) (by decide) (by decide) (lenOf pd_5 rfl) (hb hby at_70) rfl fun v64 T64 L64 X64 hQ64 => ?_
      obtain ⟨rfl, Nq64, eh64⟩ := hQ64
      have N64 := Fr.app N63 Nq64
      show Ga _ _ _ _ _ _ _ _ _ _ _ [(.int (3 : Int32))]
      refine g_iload X64 hx (hb hby at_73) rfl rfl ?_
      refine g_icmpY X64 hx (q := 80) (hb hby at_75) (XT.ii_eq_t (by decide : (3 : Int32) = (3 : Int32))) (by decide) (by decide) ?_
      refine g_aload X64 hx (hb hby at_80) rfl rfl rfl ?_
      refine g_iconst X64 hx (r := (0 : Int32)) (hb hby at_82) rfl rfl ?_
      have f68 : Fld Z T63.heap b58 "com/example/dunlin/dunlin/IntList" "m_aValues" "[I" (.ref b_59) := (p62_1.keep kc63 (ninS p59_2 nin0))
      refine g_virtual X64 hx hZ hown (hw _ (List.mem_of_getElem? (i := 38) rfl)) (hw _ (List.mem_of_getElem? (i := 39) rfl)) (notFace_of_selects (args := #[]) (mvT hZ (hw _ (List.mem_of_getElem? (i := 41) rfl)))) (hw _ (List.mem_of_getElem? (i := 41) rfl)) (hw _ (List.mem_of_getElem? (i := 40) rfl)) (hw _ (List.mem_of_getElem? (i := 3) rfl)) (hw _ (List.mem_of_getElem? (i := 42) rfl)) (by decide) (a := b58) f66 (rm_get l Z a0 hw b58 b_59 ka_59 (3 : Int32) [(.int p0), (.int p1), (.int p3), (.int (0 : Int32)), (.int (0 : Int32)), (.int (0 : Int32)), (.int (0 : Int32)), (.int (0 : Int32)), (.int (0 : Int32)), (.int (0 : Int32)), (.int (0 : Int32)), (.int (0 : Int32)), (.int (0 : Int32)), (.int (0 : Int32)), (.int (0 : Int32)), (.int (0 : Int32))] (0 : Int32) p0 T63.heap n0 Z63 f65 f68 pv63_0 (by first | decide | assumption | rfl) (by first | decide | assumption | rfl) (by first | decide | assumption | rfl) (by first | decide | assumption | rfl)) (by rw [hml]; rfl) eh64 [(.int (0 : Int32))] rfl rfl (W := 0) (Nat.le_of_eq rfl) (by decide) (by decide) (by decide) (by decide) (lenOf pd_6 rfl) (hb hby at_83) rfl fun v67 T67 L67 X67 hQ67 => ?_
      obtain ⟨rfl, Nq67, eh67⟩ := hQ67
      have N67 := Fr.app N64 Nq67
      show Ga _ _ _ _ _ _ _ _ _ _ _ [(.int p0)]
      refine g_iload X67 hx (hb hby at_86) rfl rfl ?_
      refine g_ifY X67 hx (q := 95) (hb hby at_88) (XT.i0_ne_t (by decide : ¬ (2 : Int32) = (0 : Int32))) (by decide) (by decide) ?_
      refine g_iloadN X67 hx (hb hby at_95) rfl rfl ?_
      refine g_icmpN X67 hx (hb hby at_96) rfl (XT.ii_ne_f rfl) ?_
      refine g_iconst X67 hx (r := (1 : Int32)) (hb hby at_99) rfl rfl ?_
      refine g_goto X67 hx (q := 104) (hb hby at_100) (by decide) (by decide) ?_
      refine g_istore X67 hx (Ls' := #[.val (.int p0), .val (.int p1), .val (.int p2), .val (.int p3), .val (.int p4), .val (.int p5), .val (.int (3 : Int32)), .val (.int (2 : Int32)), .val (.ref b58), .val (.int (1 : Int32))]) (hb hby at_104) rfl rfl ?_
      refine g_iload X67 hx (hb hby at_106) rfl rfl ?_
      refine g_iconst X67 hx (r := (2 : Int32)) (hb hby at_108) rfl rfl ?_
      refine g_icmpN X67 hx (hb hby at_109) rfl (XT.ii_lt_f (by decide : ¬ (3 : Int32) < (2 : Int32))) ?_
      refine g_iload X67 hx (hb hby at_112) rfl rfl ?_
      refine g_ifN X67 hx (hb hby at_114) rfl (XT.i0_eq_f (by decide : ¬ (1 : Int32) = (0 : Int32))) ?_
      refine g_aload X67 hx (hb hby at_117) rfl rfl rfl ?_
      refine g_iconst X67 hx (r := (1 : Int32)) (hb hby at_119) rfl rfl ?_
      refine g_virtual X67 hx hZ hown (hw _ (List.mem_of_getElem? (i := 38) rfl)) (hw _ (List.mem_of_getElem? (i := 39) rfl)) (notFace_of_selects (args := #[]) (mvT hZ (hw _ (List.mem_of_getElem? (i := 41) rfl)))) (hw _ (List.mem_of_getElem? (i := 41) rfl)) (hw _ (List.mem_of_getElem? (i := 40) rfl)) (hw _ (List.mem_of_getElem? (i := 3) rfl)) (hw _ (List.mem_of_getElem? (i := 42) rfl)) (by decide) (a := b58) f66 (rm_get l Z a0 hw b58 b_59 ka_59 (3 : Int32) [(.int p0), (.int p1), (.int p3), (.int (0 : Int32)), (.int (0 : Int32)), (.int (0 : Int32)), (.int (0 : Int32)), (.int (0 : Int32)), (.int (0 : Int32)), (.int (0 : Int32)), (.int (0 : Int32)), (.int (0 : Int32)), (.int (0 : Int32)), (.int (0 : Int32)), (.int (0 : Int32)), (.int (0 : Int32))] (1 : Int32) p1 T63.heap n0 Z63 f65 f68 pv63_0 (by first | decide | assumption | rfl) (by first | decide | assumption | rfl) (by first | decide | assumption | rfl) (by first | decide | assumption | rfl)) (by rw [hml]; rfl) eh67 [(.int (1 : Int32))] rfl rfl (W := 0) (Nat.le_of_eq rfl) (by decide) (by decide) (by decide) (by decide) (lenOf pd_6 rfl) (hb hby at_120) rfl fun v69 T69 L69 X69 hQ69 => ?_
      obtain ⟨rfl, Nq69, eh69⟩ := hQ69
      have N69 := Fr.app N67 Nq69
      show Ga _ _ _ _ _ _ _ _ _ _ _ [(.int p1)]
      refine g_iload X69 hx (hb hby at_123) rfl rfl ?_
      refine g_iconst X69 hx (r := (1 : Int32)) (hb hby at_125) rfl rfl ?_
      refine g_icmpY X69 hx (q := 133) (hb hby at_126) (XT.ii_ne_t (by decide : ¬ (2 : Int32) = (1 : Int32))) (by decide) (by decide) ?_
      refine g_iloadN X69 hx (hb hby at_133) rfl rfl ?_
      refine g_icmpN X69 hx (hb hby at_134) rfl (XT.ii_ne_f rfl) ?_
      refine g_iconst X69 hx (r := (1 : Int32)) (hb hby at_137) rfl rfl ?_
      refine g_goto X69 hx (q := 142) (hb hby at_138) (by decide) (by decide) ?_
      refine g_istore X69 hx (Ls' := #[.val (.int p0), .val (.int p1), .val (.int p2), .val (.int p3), .val (.int p4), .val (.int p5), .val (.int (3 : Int32)), .val (.int (2 : Int32)), .val (.ref b58), .val (.int (1 : Int32))]) (hb hby at_142) rfl rfl ?_
      refine g_iload X69 hx (hb hby at_144) rfl rfl ?_
      refine g_iconst X69 hx (r := (3 : Int32)) (hb hby at_146) rfl rfl ?_
      refine g_icmpN X69 hx (hb hby at_147) rfl (XT.ii_lt_f (by decide : ¬ (3 : Int32) < (3 : Int32))) ?_
      refine g_iload X69 hx (hb hby at_150) rfl rfl ?_
      refine g_ifN X69 hx (hb hby at_152) rfl (XT.i0_eq_f (by decide : ¬ (1 : Int32) = (0 : Int32))) ?_
      refine g_aload X69 hx (hb hby at_155) rfl rfl rfl ?_
      refine g_iconst X69 hx (r := (2 : Int32)) (hb hby at_157) rfl rfl ?_
      refine g_virtual X69 hx hZ hown (hw _ (List.mem_of_getElem? (i := 38) rfl)) (hw _ (List.mem_of_getElem? (i := 39) rfl)) (notFace_of_selects (args := #[]) (mvT hZ (hw _ (List.mem_of_getElem? (i := 41) rfl)))) (hw _ (List.mem_of_getElem? (i := 41) rfl)) (hw _ (List.mem_of_getElem? (i := 40) rfl)) (hw _ (List.mem_of_getElem? (i := 3) rfl)) (hw _ (List.mem_of_getElem? (i := 42) rfl)) (by decide) (a := b58) f66 (rm_get l Z a0 hw b58 b_59 ka_59 (3 : Int32) [(.int p0), (.int p1), (.int p3), (.int (0 : Int32)), (.int (0 : Int32)), (.int (0 : Int32)), (.int (0 : Int32)), (.int (0 : Int32)), (.int (0 : Int32)), (.int (0 : Int32)), (.int (0 : Int32)), (.int (0 : Int32)), (.int (0 : Int32)), (.int (0 : Int32)), (.int (0 : Int32)), (.int (0 : Int32))] (2 : Int32) p3 T63.heap n0 Z63 f65 f68 pv63_0 (by first | decide | assumption | rfl) (by first | decide | assumption | rfl) (by first | decide | assumption | rfl) (by first | decide | assumption | rfl)) (by rw [hml]; rfl) eh69 [(.int (2 : Int32))] rfl rfl (W := 0) (Nat.le_of_eq rfl) (by decide) (by decide) (by decide) (by decide) (lenOf pd_6 rfl) (hb hby at_158) rfl fun v70 T70 L70 X70 hQ70 => ?_
      obtain ⟨rfl, Nq70, eh70⟩ := hQ70
      have N70 := Fr.app N69 Nq70
      show Ga _ _ _ _ _ _ _ _ _ _ _ [(.int p3)]
      refine g_iload X70 hx (hb hby at_161) rfl rfl ?_
      refine g_iconst X70 hx (r := (2 : Int32)) (hb hby at_163) rfl rfl ?_
      refine g_icmpN X70 hx (hb hby at_164) rfl (XT.ii_ne_f (by decide : (2 : Int32) = (2 : Int32))) ?_
      refine g_iloadN X70 hx (hb hby at_167) rfl rfl ?_
      refine g_goto X70 hx (q := 172) (hb hby at_168) (by decide) (by decide) ?_
      refine g_icmpN X70 hx (hb hby at_172) rfl (XT.ii_ne_f rfl) ?_
      refine g_iconst X70 hx (r := (1 : Int32)) (hb hby at_175) rfl rfl ?_
      refine g_goto X70 hx (q := 180) (hb hby at_176) (by decide) (by decide) ?_
      refine g_istore X70 hx (Ls' := #[.val (.int p0), .val (.int p1), .val (.int p2), .val (.int p3), .val (.int p4), .val (.int p5), .val (.int (3 : Int32)), .val (.int (2 : Int32)), .val (.ref b58), .val (.int (1 : Int32))]) (hb hby at_180) rfl rfl ?_
      refine g_iload X70 hx (hb hby at_182) rfl rfl ?_
      exact g_retN X70 hx (t := .boolean) (r := (1 : Int32)) hret (by simp) hlk (hb hby at_184) rfl (by decide) (by decide) (by rw [eh70]; exact ⟨rfl, N70⟩)
set_option maxRecDepth 65536 in
set_option maxHeartbeats 40000000 in
theorem comes_1 {Post : Tables → Env → Array Value → State → Outcome → State → Prop} (hpost : ∀ tb e args s v u, (limb_1_1.after args s (.returned v) u = true ∧ limb_1_2.after args s (.returned v) u = true ∧ True) → FrameEnd s (.returned v) u (Jvm.fieldLocs frame_1_writes args s ++ Jvm.arrayLocs frame_1_arrays args s ++ Jvm.staticLocs frame_1_statics s) 16 128 → Post tb e args s (.returned v) u) :
    ArmFor flags0 classFile x code maxLocals ret World_1 tables_1 room_1 Calls_1 rest_1 Pre_1 Post := by
  intro l hfl _ _ p e ha hc hk s m args below hf hA hF happ hP
  obtain ⟨hcalls, hrest, hpre⟩ := hP
  obtain ⟨-, -, -, hnamed, -, -, -, hat⟩ := (Spec.applies_iff hf).mp happ
  obtain ⟨hg, hn⟩ := and_e (Cond.before_iff.mp (show (Jvm.Cond.and given_1 narrow_1).before args s = true from hpre))
  obtain ⟨hcn, hg1⟩ := and_e hg
  obtain ⟨k1, hg2⟩ := and_e hg1
  obtain ⟨k2, hg3⟩ := and_e hg2
  obtain ⟨k3, hg4⟩ := and_e hg3
  obtain ⟨k4, hg5⟩ := and_e hg4
  obtain ⟨k5, hg6⟩ := and_e hg5
  have k6 := hg6
  obtain ⟨w0, w1, w2, w3, w4, w5, rfl⟩ : ∃ w0 w1 w2 w3 w4 w5 : Value, args = #[w0, w1, w2, w3, w4, w5] := by
    have hs : args.size = 6 := by simpa [Cond.value, given_1] using hcn
    obtain ⟨L⟩ := args
    match L, hs with
    | [w0, w1, w2, w3, w4, w5], _ => exact ⟨w0, w1, w2, w3, w4, w5, rfl⟩
  have hw := fun d (hd : d ∈ tables_1) => atoms_spec (ws := Jvm.Cond.code x code maxLocals ret :: tables_1) hat d (List.mem_cons_of_mem _ hd)
  have hfit : Fit s := fun {y c} hc i hi => by
    obtain ⟨ha, rfl⟩ := Array.getElem?_eq_some_iff.mp hc
    have q := List.all_eq_true.mp ((Array.all_eq_true_iff_forall_mem.mp hF) _ (Array.getElem_mem ha)) i (List.mem_range.mpr hi)
    simpa [Array.getElem?_eq_getElem hi] using q
  obtain ⟨i0, ei0⟩ := is_v k1
  obtain rfl : w0 = (.int i0) := Option.some.inj ei0
  obtain ⟨i1, ei1⟩ := is_v k2
  obtain rfl : w1 = (.int i1) := Option.some.inj ei1
  obtain ⟨i2, ei2⟩ := is_v k3
  obtain rfl : w2 = (.int i2) := Option.some.inj ei2
  obtain ⟨i3, ei3⟩ := is_v k4
  obtain rfl : w3 = (.int i3) := Option.some.inj ei3
  obtain ⟨i4, ei4⟩ := is_v k5
  obtain rfl : w4 = (.int i4) := Option.some.inj ei4
  obtain ⟨i5, ei5⟩ := is_v k6
  obtain rfl : w5 = (.int i5) := Option.some.inj ei5
  obtain ⟨n, o, h1, h2, h3, _, L, rfl, ⟨rfl, N⟩, hq⟩ := rm_law l s _ hw tables_1 i0 i1 i2 i3 i4 i5 s.heap s.heap.size (Nat.le_refl _) p e ha hc hk s m _ below hf ((Spec.applies_iff_loose hf).mp happ).1 ⟨rfl, State.Warmed39.refl s, rfl⟩ trivial
  refine ⟨n, _, h1, h2, h3, hpost _ _ _ _ _ _ ⟨Cond.after_iff.mpr rfl, Cond.after_iff.mpr (eq_i res_at (Term.int_eval (1)) rfl), trivial⟩ ⟨hq.1, hq.2.1, (hq.2.2.sift fun y hy => Or.inr (N y hy)).mono (by decide) (by decide)⟩⟩
theorem main_1_1 : Claimed_1_1 := comes_1 fun _ _ _ _ _ _ h hF => ⟨h.1, hF⟩
theorem main_1_2 : Claimed_1_2 := comes_1 fun _ _ _ _ _ _ h hF => ⟨h.2.1, hF⟩
end Jvm.Pilot.@@N@@
namespace Jvm.Pilot.@@N@@
open Jvm Jvm.ClassFile Sem Op Lib Jvm.Free Jvm.Stand Jvm.Pilot.@@N@@.Jvm.D
/-! MADE BY PROGRAM (witnessworld.py) out of the Statement's table words and the real class files: 11 classes; the members and pool entries that the words name. The judged class is class 1, her method 1. -/
namespace start1
open Jvm.ClassFile
def u (s : String) : CpInfo := .utf8 (stringToUtf16 s)
/-- a pool by its gaps: so many unusable entries, then the entry; so many at the end -/
def gap : Nat → List CpInfo → List CpInfo
  | 0, r => r
  | n + 1, r => .unusable :: gap n r
def poolList (es : List (Nat × CpInfo)) (last : Nat) : List CpInfo := es.foldr (fun e r => gap e.1 (e.2 :: r)) (gap last [])
def pool (es : List (Nat × CpInfo)) (last : Nat) : Array CpInfo := ⟨poolList es last⟩
def fileOf (pool : Array CpInfo) (this : Nat) (attrs : Array Attribute := #[]) (ms : Array MethodInfo := #[]) (fl : Nat := 33) (sup : Nat := 0) (ifs : Array Nat := #[]) (fds : Array FieldInfo := #[]) : ClassFile where
  minorVersion := 0
  majorVersion := 65
  constantPool := pool
  accessFlags := fl
  thisClass := this
  superClass := sup
  interfaces := ifs
  fields := fds
  methods := ms
  attributes := attrs
def plain (name : String) (sup : Option ClassId) : Class where
  name := name
  kind := .ordinary
  loader := none
  accessFlags := 33
  super := sup
  interfaces := #[]
  cf := none
  fields := #[]
  methods := #[]
  instanceTypes := #[]
  staticTypes := #[]
  resolved := #[]
  callSites := []
  init := .initialized
  statics := none
  mirror := none

def pool0 : Array CpInfo := pool [(5, u "<init>"), (0, u "()V"), (1, .class_ 10), (1, u "java/lang/Object")] 113

def k0c0 : Code := { maxStack := 0, maxLocals := 1, code := object_method_1_code, exceptionTable := #[], attributes := #[] }
def k0m0 : Method := { name := "<init>", desc := "()V", sig := { parameters := [], returnType := none }, accessFlags := 1, code := some k0c0 }
/-- java/lang/Object -/
def k0 : Class := { plain "java/lang/Object" none with
  accessFlags := 33
  interfaces := #[]
  cf := some (fileOf pool0 8 #[] #[{ accessFlags := 1, nameIndex := 5, descriptorIndex := 6, attributes := #[] }] 33 0 #[] #[])
  fields := #[]
  methods := #[k0m0]
  instanceTypes := #[]
  staticTypes := #[]
  resolved := Array.replicate 124 none
  statics := none }

def pool1 : Array CpInfo := pool [(2, .class_ 4), (0, .nameAndType 5 6), (0, u "java/lang/Object"), (0, u "<init>"), (0, u "()V"), (0, .integer 2147483647), (0, .class_ 9), (0, u "com/example/dunlin/dunlin/IntList"), (0, .methodref 8 3), (0, .methodref 8 12), (0, .nameAndType 13 14), (0, u "add"), (0, u "(I)V"), (0, .methodref 8 16), (0, .nameAndType 17 18), (0, u "set"), (0, u "(II)V"), (0, .methodref 8 20), (0, .nameAndType 21 22), (0, u "size"), (0, u "()I"), (0, .methodref 8 24), (0, .nameAndType 25 26), (0, u "get"), (0, u "(I)I"), (0, .class_ 28), (0, u "com/example/dunlin/dunlin/IntListSetPinLaw"), (2, u "law"), (0, u "(IIIIII)Z")] 3

def k1m0 : Method := { name := "<init>", desc := "()V", sig := { parameters := [], returnType := none }, accessFlags := 1, code := none }
def k1c1 : Code := { maxStack := 3, maxLocals := 10, code := code, exceptionTable := #[], attributes := #[] }
def k1m1 : Method := { name := "law", desc := "(IIIIII)Z", sig := { parameters := [.int, .int, .int, .int, .int, .int], returnType := some .boolean }, accessFlags := 9, code := some k1c1 }
/-- com/example/dunlin/dunlin/IntListSetPinLaw -/
def k1 : Class := { plain "com/example/dunlin/dunlin/IntListSetPinLaw" (some 0) with
  accessFlags := 49
  interfaces := #[]
  cf := some (fileOf pool1 27 #[] #[{ accessFlags := 1, nameIndex := 5, descriptorIndex := 6, attributes := #[] }, { accessFlags := 9, nameIndex := 31, descriptorIndex := 32, attributes := #[] }] 49 2 #[] #[])
  fields := #[]
  methods := #[k1m0, k1m1]
  instanceTypes := #[]
  staticTypes := #[]
  resolved := Array.replicate 36 none
  statics := none }

def pool2 : Array CpInfo := pool [(1, .methodref 2 3), (0, .class_ 4), (0, .nameAndType 5 6), (0, u "java/lang/Object"), (0, u "<init>"), (0, u "()V"), (0, .fieldref 8 9), (0, .class_ 10), (0, .nameAndType 11 12), (0, u "com/example/dunlin/dunlin/IntList"), (0, u "m_aValues"), (0, u "[I"), (0, .fieldref 8 14), (0, .nameAndType 15 16), (0, u "m_nSize"), (0, u "I"), (0, .methodref 18 19), (0, .class_ 20), (0, .nameAndType 21 22), (0, u "java/util/Objects"), (0, u "checkIndex"), (0, u "(II)I"), (8, u "size"), (0, u "()I"), (0, u "get"), (0, u "(I)I"), (0, u "add"), (0, u "(I)V"), (1, u "set"), (0, u "(II)V")] 4

def k2c0 : Code := { maxStack := 2, maxLocals := 1, code := prog_10_method_1_code, exceptionTable := #[], attributes := #[] }
def k2m0 : Method := { name := "<init>", desc := "()V", sig := { parameters := [], returnType := none }, accessFlags := 0, code := some k2c0 }
def k2c1 : Code := { maxStack := 1, maxLocals := 1, code := prog_10_method_2_code, exceptionTable := #[], attributes := #[] }
def k2m1 : Method := { name := "size", desc := "()I", sig := { parameters := [], returnType := some .int }, accessFlags := 0, code := some k2c1 }
def k2c2 : Code := { maxStack := 2, maxLocals := 2, code := prog_10_method_3_code, exceptionTable := #[], attributes := #[] }
def k2m2 : Method := { name := "get", desc := "(I)I", sig := { parameters := [.int], returnType := some .int }, accessFlags := 0, code := some k2c2 }
def k2c3 : Code := { maxStack := 5, maxLocals := 2, code := prog_10_method_4_code, exceptionTable := #[], attributes := #[] }
def k2m3 : Method := { name := "add", desc := "(I)V", sig := { parameters := [.int], returnType := none }, accessFlags := 0, code := some k2c3 }
def k2c4 : Code := { maxStack := 3, maxLocals := 3, code := prog_10_method_5_code, exceptionTable := #[], attributes := #[] }
def k2m4 : Method := { name := "set", desc := "(II)V", sig := { parameters := [.int, .int], returnType := none }, accessFlags := 0, code := some k2c4 }
/-- com/example/dunlin/dunlin/IntList -/
def k2 : Class := { plain "com/example/dunlin/dunlin/IntList" (some 0) with
  accessFlags := 48
  interfaces := #[]
  cf := some (fileOf pool2 8 #[] #[{ accessFlags := 0, nameIndex := 5, descriptorIndex := 6, attributes := #[] }, { accessFlags := 0, nameIndex := 31, descriptorIndex := 32, attributes := #[] }, { accessFlags := 0, nameIndex := 33, descriptorIndex := 34, attributes := #[] }, { accessFlags := 0, nameIndex := 35, descriptorIndex := 36, attributes := #[] }, { accessFlags := 0, nameIndex := 38, descriptorIndex := 39, attributes := #[] }] 48 2 #[] #[{ accessFlags := 2, nameIndex := 11, descriptorIndex := 12, attributes := #[] }, { accessFlags := 2, nameIndex := 15, descriptorIndex := 16, attributes := #[] }])
  fields := #[{ name := "m_aValues", type := (.array .int), accessFlags := 2, slot := 0, constantValue := 0 }, { name := "m_nSize", type := .int, accessFlags := 2, slot := 1, constantValue := 0 }]
  methods := #[k2m0, k2m1, k2m2, k2m3, k2m4]
  instanceTypes := #[(.array .int), .int]
  staticTypes := #[]
  resolved := Array.replicate 44 none
  statics := none }

def pool3 : Array CpInfo := pool [(2, .class_ 4), (1, u "java/lang/Object"), (0, u "<init>"), (0, u "()V"), (35, .class_ 44), (1, u "java/util/Objects"), (60, .methodref 106 107), (0, .class_ 108), (0, .nameAndType 109 110), (0, u "jdk/internal/util/Preconditions"), (0, u "checkIndex"), (0, u "(IILjava/util/function/BiFunction;)I"), (60, u "(II)I")] 12

def k3m0 : Method := { name := "<init>", desc := "()V", sig := { parameters := [], returnType := none }, accessFlags := 2, code := none }
def k3c1 : Code := { maxStack := 3, maxLocals := 2, code := jdk_31_method_17_code, exceptionTable := #[], attributes := #[] }
def k3m1 : Method := { name := "checkIndex", desc := "(II)I", sig := { parameters := [.int, .int], returnType := some .int }, accessFlags := 9, code := some k3c1 }
/-- java/util/Objects -/
def k3 : Class := { plain "java/util/Objects" (some 0) with
  accessFlags := 49
  interfaces := #[]
  cf := some (fileOf pool3 42 #[] #[{ accessFlags := 2, nameIndex := 5, descriptorIndex := 6, attributes := #[] }, { accessFlags := 9, nameIndex := 109, descriptorIndex := 171, attributes := #[] }] 49 2 #[] #[])
  fields := #[]
  methods := #[k3m0, k3m1]
  instanceTypes := #[]
  staticTypes := #[]
  resolved := Array.replicate 184 none
  statics := none }

def pool4 : Array CpInfo := pool [(2, .class_ 4), (1, u "java/lang/Object"), (0, u "<init>"), (0, u "()V"), (17, .class_ 26), (1, u "jdk/internal/util/Preconditions"), (6, u "checkIndex"), (21, .class_ 56), (0, u "jdk/internal/util/Preconditions$4"), (57, .class_ 115), (0, u "jdk/internal/util/Preconditions$1"), (7, u "SIOOBE_FORMATTER"), (0, u "Ljava/util/function/BiFunction;"), (0, .class_ 126), (0, u "jdk/internal/util/Preconditions$2"), (3, u "AIOOBE_FORMATTER"), (0, .class_ 132), (0, u "jdk/internal/util/Preconditions$3"), (3, u "IOOBE_FORMATTER"), (41, u "(IILjava/util/function/BiFunction;)I")] 15

def k4m0 : Method := { name := "<init>", desc := "()V", sig := { parameters := [], returnType := none }, accessFlags := 1, code := none }
def k4c1 : Code := { maxStack := 3, maxLocals := 3, code := jdk_41_method_11_code, exceptionTable := #[], attributes := #[] }
def k4m1 : Method := { name := "checkIndex", desc := "(IILjava/util/function/BiFunction;)I", sig := { parameters := [.int, .int, (.object "java/util/function/BiFunction")], returnType := some .int }, accessFlags := 9, code := some k4c1 }
/-- jdk/internal/util/Preconditions -/
def k4 : Class := { plain "jdk/internal/util/Preconditions" (some 0) with
  accessFlags := 33
  interfaces := #[]
  cf := some (fileOf pool4 24 #[.nestMembers #[55, 131, 125, 114]] #[{ accessFlags := 1, nameIndex := 5, descriptorIndex := 6, attributes := #[] }, { accessFlags := 9, nameIndex := 33, descriptorIndex := 178, attributes := #[] }] 33 2 #[] #[{ accessFlags := 25, nameIndex := 123, descriptorIndex := 124, attributes := #[] }, { accessFlags := 25, nameIndex := 130, descriptorIndex := 124, attributes := #[] }, { accessFlags := 25, nameIndex := 136, descriptorIndex := 124, attributes := #[] }])
  fields := #[{ name := "SIOOBE_FORMATTER", type := (.object "java/util/function/BiFunction"), accessFlags := 25, slot := 0, constantValue := 0 }, { name := "AIOOBE_FORMATTER", type := (.object "java/util/function/BiFunction"), accessFlags := 25, slot := 1, constantValue := 0 }, { name := "IOOBE_FORMATTER", type := (.object "java/util/function/BiFunction"), accessFlags := 25, slot := 2, constantValue := 0 }]
  methods := #[k4m0, k4m1]
  instanceTypes := #[]
  staticTypes := #[(.object "java/util/function/BiFunction"), (.object "java/util/function/BiFunction"), (.object "java/util/function/BiFunction")]
  resolved := Array.replicate 194 none
  statics := none }

def pool5 : Array CpInfo := pool [(1, u "java/lang/Cloneable"), (0, .class_ 1), (0, u "java/lang/Object"), (0, .class_ 3)] 3

/-- java/lang/Cloneable -/
def k5 : Class := { plain "java/lang/Cloneable" (some 0) with
  accessFlags := 1537
  interfaces := #[]
  cf := some (fileOf pool5 2 #[] #[] 1537 4 #[] #[])
  fields := #[]
  methods := #[]
  instanceTypes := #[]
  staticTypes := #[]
  resolved := Array.replicate 8 none
  statics := none }

def pool6 : Array CpInfo := pool [(1, u "java/io/Serializable"), (0, .class_ 1), (0, u "java/lang/Object"), (0, .class_ 3)] 3

/-- java/io/Serializable -/
def k6 : Class := { plain "java/io/Serializable" (some 0) with
  accessFlags := 1537
  interfaces := #[]
  cf := some (fileOf pool6 2 #[] #[] 1537 4 #[] #[])
  fields := #[]
  methods := #[]
  instanceTypes := #[]
  staticTypes := #[]
  resolved := Array.replicate 8 none
  statics := none }

/-- the primitive byte -/
def k7 : Class := { plain "byte" none with kind := .primitive 'B', accessFlags := 0x411 }
/-- [B -/
def k8 : Class := { plain "[B" (some 0) with kind := .array 7 .byte, interfaces := #[5, 6], accessFlags := 1041 }

/-- the primitive int -/
def k9 : Class := { plain "int" none with kind := .primitive 'I', accessFlags := 0x411 }
/-- [I -/
def k10 : Class := { plain "[I" (some 0) with kind := .array 9 .int, interfaces := #[5, 6], accessFlags := 1041 }

def heap : Heap := #[]
def classes : Array Class := #[k0, k1, k2, k3, k4, k5, k6, k7, k8, k9, k10]
def interned : List (Array UInt16 × Addr) := []
def slotsUsed : Nat := 0
def theMethod : MethodId := ⟨1, 1⟩
def args0 : Array Value := #[.int 5, .int 300, .int 7, .int 10, .int 3, .int 4]
def aboutOver (below : List Frame) : State where
  vm := { classes := classes, interned := interned.toArray }
  heap := heap
  slotsUsed := slotsUsed
  threads := #[{ frames := .invoking theMethod args0 :: below }]
def below0 : List Frame := [.native { method := ⟨0, 0⟩, args := #[] }]
def about1 : State := aboutOver below0
def p0 : Program := .bare "" "" ""
def e0 : Env := launch0.env 0 0 0
theorem w_frames : about1.frames = Frame.invoking theMethod args0 :: below0 := rfl
set_option maxRecDepth 65536 in
theorem w_args : argsFit about1.vm theMethod args0 = true := by decide +kernel
set_option maxRecDepth 65536 in
theorem w_heap : heapFits about1 = true := by decide +kernel
set_option maxRecDepth 65536 in
theorem w_runnable : about1.curStatus? = some .runnable := by decide +kernel
set_option maxRecDepth 65536 in
theorem w_alone : about1.alone = true := by decide +kernel
set_option maxRecDepth 65536 in
theorem w_named : about1.methodNamed? x = some theMethod := by decide +kernel
set_option maxRecDepth 65536 in
theorem w_hears : about1.hears theMethod below0 = true := by decide +kernel
set_option maxRecDepth 65536 in
theorem w_ripe : about1.ripe theMethod args0 below0 = true := by decide +kernel
theorem w_running : about1.status = .running := rfl
set_option maxRecDepth 65536 in
theorem w_room : about1.hasRoom e0.platform room_1 = true :=
  launch0.hasRoom_least _ room_1 (by decide +kernel) (by decide +kernel) (by decide +kernel) (by decide +kernel) (by decide +kernel) (by decide +kernel)
theorem allAtoms_all (ts : List Jvm.Cond) (a : Array Jvm.Value) (st : Jvm.State) : (allAtoms ts).before a st = ts.all (fun c => c.before a st) := by
  induction ts with
  | nil => rfl
  | cons c t ih =>
    show (Jvm.Cond.and c (allAtoms t)).before a st = _
    rw [Jvm.Cond.before_and, ih, List.all_cons]
def words1 : List Jvm.Cond := Jvm.Cond.code x code maxLocals ret :: tables_1
/-- a 'code' word, met by the world's own term for the bytes: nothing is compared byte by byte -/
theorem code_word {y : MethodName} {bytes : ByteArray} {mx : Nat} {rt : Option FieldType} {a : Array Value} {s : State} {m : MethodId} {meth : Method} {c : Code} (h1 : s.methodNamed? y = some m) (h2 : s.vm.method? m = some meth) (h3 : meth.code = some c) (h4 : c.code = bytes)
    (h5 : (c.maxLocals == mx && c.exceptionTable.isEmpty && decide (c.maxStack ≤ mostOperands) && decide (meth.sig.returnType = rt) && !meth.locks && decide (parseMethodDescriptor y.desc = some meth.sig)) = true) : (Jvm.Cond.code y bytes mx rt).before a s = true := by
  simp only [Bool.and_eq_true, beq_iff_eq, Bool.not_eq_true', decide_eq_true_eq] at h5
  obtain ⟨⟨⟨⟨⟨g1, g2⟩, g3⟩, g4⟩, g5⟩, g6⟩ := h5
  simp [Cond.before, Cond.holds, Cond.value, h1, h2, h3, h4, g1, g2, g3, g4, g5, g6]
def isCode : Jvm.Cond → Bool
  | .code _ _ _ _ => true
  | _ => false
theorem all_split {L : List Jvm.Cond} {P : Jvm.Cond → Bool} (h1 : L.all (fun c => isCode c || P c) = true) (h2 : ∀ c ∈ L.filter isCode, P c = true) : L.all P = true := by
  refine List.all_eq_true.mpr fun c hc => ?_
  have h := List.all_eq_true.mp h1 c hc
  rcases Bool.eq_false_or_eq_true (isCode c) with hi | hi
  · exact h2 c (List.mem_filter.mpr ⟨hc, hi⟩)
  · simpa [hi] using h
set_option maxRecDepth 65536 in
theorem w_c0 : (Jvm.Cond.code x code maxLocals ret).before args0 about1 = true := code_word (m := ⟨1, 1⟩) (meth := k1m1) (c := k1c1) (by decide +kernel) rfl rfl rfl (by decide +kernel)
set_option maxRecDepth 65536 in
theorem w_c1 : (Jvm.Cond.code ({ cls := "com/example/dunlin/dunlin/IntList", name := "<init>", desc := "()V" } : Jvm.MethodName) prog_10_method_1_code (1 : Nat) (Option.none : Option Jvm.ClassFile.FieldType)).before args0 about1 = true := code_word (m := ⟨2, 0⟩) (meth := k2m0) (c := k2c0) (by decide +kernel) rfl rfl rfl (by decide +kernel)
set_option maxRecDepth 65536 in
theorem w_c2 : (Jvm.Cond.code ({ cls := "java/lang/Object", name := "<init>", desc := "()V" } : Jvm.MethodName) object_method_1_code (1 : Nat) (Option.none : Option Jvm.ClassFile.FieldType)).before args0 about1 = true := code_word (m := ⟨0, 0⟩) (meth := k0m0) (c := k0c0) (by decide +kernel) rfl rfl rfl (by decide +kernel)
set_option maxRecDepth 65536 in
theorem w_c3 : (Jvm.Cond.code ({ cls := "com/example/dunlin/dunlin/IntList", name := "add", desc := "(I)V" } : Jvm.MethodName) prog_10_method_4_code (2 : Nat) (Option.none : Option Jvm.ClassFile.FieldType)).before args0 about1 = true := code_word (m := ⟨2, 3⟩) (meth := k2m3) (c := k2c3) (by decide +kernel) rfl rfl rfl (by decide +kernel)
set_option maxRecDepth 65536 in
theorem w_c4 : (Jvm.Cond.code ({ cls := "com/example/dunlin/dunlin/IntList", name := "set", desc := "(II)V" } : Jvm.MethodName) prog_10_method_5_code (3 : Nat) (Option.none : Option Jvm.ClassFile.FieldType)).before args0 about1 = true := code_word (m := ⟨2, 4⟩) (meth := k2m4) (c := k2c4) (by decide +kernel) rfl rfl rfl (by decide +kernel)
set_option maxRecDepth 65536 in
theorem w_c5 : (Jvm.Cond.code ({ cls := "java/util/Objects", name := "checkIndex", desc := "(II)I" } : Jvm.MethodName) jdk_31_method_17_code (2 : Nat) (Option.some Jvm.ClassFile.FieldType.int)).before args0 about1 = true := code_word (m := ⟨3, 1⟩) (meth := k3m1) (c := k3c1) (by decide +kernel) rfl rfl rfl (by decide +kernel)
set_option maxRecDepth 65536 in
theorem w_c6 : (Jvm.Cond.code ({ cls := "jdk/internal/util/Preconditions", name := "checkIndex", desc := "(IILjava/util/function/BiFunction;)I" } : Jvm.MethodName) jdk_41_method_11_code (3 : Nat) (Option.some Jvm.ClassFile.FieldType.int)).before args0 about1 = true := code_word (m := ⟨4, 1⟩) (meth := k4m1) (c := k4c1) (by decide +kernel) rfl rfl rfl (by decide +kernel)
set_option maxRecDepth 65536 in
theorem w_c7 : (Jvm.Cond.code ({ cls := "com/example/dunlin/dunlin/IntList", name := "size", desc := "()I" } : Jvm.MethodName) prog_10_method_2_code (1 : Nat) (Option.some Jvm.ClassFile.FieldType.int)).before args0 about1 = true := code_word (m := ⟨2, 1⟩) (meth := k2m1) (c := k2c1) (by decide +kernel) rfl rfl rfl (by decide +kernel)
set_option maxRecDepth 65536 in
theorem w_c8 : (Jvm.Cond.code ({ cls := "com/example/dunlin/dunlin/IntList", name := "get", desc := "(I)I" } : Jvm.MethodName) prog_10_method_3_code (2 : Nat) (Option.some Jvm.ClassFile.FieldType.int)).before args0 about1 = true := code_word (m := ⟨2, 2⟩) (meth := k2m2) (c := k2c2) (by decide +kernel) rfl rfl rfl (by decide +kernel)
def codes1 : List Jvm.Cond := [Jvm.Cond.code x code maxLocals ret, Jvm.Cond.code ({ cls := "com/example/dunlin/dunlin/IntList", name := "<init>", desc := "()V" } : Jvm.MethodName) prog_10_method_1_code (1 : Nat) (Option.none : Option Jvm.ClassFile.FieldType), Jvm.Cond.code ({ cls := "java/lang/Object", name := "<init>", desc := "()V" } : Jvm.MethodName) object_method_1_code (1 : Nat) (Option.none : Option Jvm.ClassFile.FieldType), Jvm.Cond.code ({ cls := "com/example/dunlin/dunlin/IntList", name := "add", desc := "(I)V" } : Jvm.MethodName) prog_10_method_4_code (2 : Nat) (Option.none : Option Jvm.ClassFile.FieldType), Jvm.Cond.code ({ cls := "com/example/dunlin/dunlin/IntList", name := "set", desc := "(II)V" } : Jvm.MethodName) prog_10_method_5_code (3 : Nat) (Option.none : Option Jvm.ClassFile.FieldType), Jvm.Cond.code ({ cls := "java/util/Objects", name := "checkIndex", desc := "(II)I" } : Jvm.MethodName) jdk_31_method_17_code (2 : Nat) (Option.some Jvm.ClassFile.FieldType.int), Jvm.Cond.code ({ cls := "jdk/internal/util/Preconditions", name := "checkIndex", desc := "(IILjava/util/function/BiFunction;)I" } : Jvm.MethodName) jdk_41_method_11_code (3 : Nat) (Option.some Jvm.ClassFile.FieldType.int), Jvm.Cond.code ({ cls := "com/example/dunlin/dunlin/IntList", name := "size", desc := "()I" } : Jvm.MethodName) prog_10_method_2_code (1 : Nat) (Option.some Jvm.ClassFile.FieldType.int), Jvm.Cond.code ({ cls := "com/example/dunlin/dunlin/IntList", name := "get", desc := "(I)I" } : Jvm.MethodName) prog_10_method_3_code (2 : Nat) (Option.some Jvm.ClassFile.FieldType.int)]
set_option maxRecDepth 65536 in
theorem codes_eq : words1.filter isCode = codes1 := rfl
theorem w_codes : ∀ c ∈ words1.filter isCode, c.before args0 about1 = true := by
  rw [codes_eq]
  intro c hc
  simp only [codes1, List.mem_cons, List.not_mem_nil, or_false] at hc
  rcases hc with rfl | rfl | rfl | rfl | rfl | rfl | rfl | rfl | rfl
  · exact w_c0
  · exact w_c1
  · exact w_c2
  · exact w_c3
  · exact w_c4
  · exact w_c5
  · exact w_c6
  · exact w_c7
  · exact w_c8
set_option maxRecDepth 65536 in
theorem w_t1 : (words1.take 24).all (fun c => isCode c || c.before args0 about1) = true := by decide +kernel
set_option maxRecDepth 65536 in
theorem w_t2 : (words1.drop 24).all (fun c => isCode c || c.before args0 about1) = true := by decide +kernel
theorem w_tables : (allAtoms (Jvm.Cond.code x code maxLocals ret :: tables_1)).before args0 about1 = true := by
  rw [allAtoms_all]
  show words1.all (fun c => c.before args0 about1) = true
  refine all_split ?_ w_codes
  rw [← List.take_append_drop 24 words1, List.all_append, w_t1, w_t2]
  rfl
set_option maxRecDepth 65536 in
theorem w_case : (Jvm.Cond.and given_1 narrow_1).before args0 about1 = true := by decide +kernel
theorem w_applies : (headSpec (Jvm.Cond.code x code maxLocals ret :: tables_1) room_1).applies x e0.platform about1 = true :=
  (Spec.applies_iff w_frames).mpr ⟨w_running, w_runnable, w_alone, w_named, w_hears, w_ripe, w_room, w_tables⟩
theorem atStart : AtStart classFile x code maxLocals ret World_1 tables_1 room_1 Calls_1 rest_1 Pre_1 launch0 p0 e0 about1 theMethod args0 below0 :=
  ⟨lists_1, trivial, launch0.admits_env _ _ _, launch0.least_env, fairChoices_fair.cas, fairChoices_fair.clock, w_frames, w_args, w_heap, w_applies, trivial, trivial, w_case⟩
end start1
theorem witness_1 : WitnessClaimed_1 := ⟨start1.p0, start1.e0, start1.about1, start1.theMethod, start1.args0, start1.below0, start1.atStart⟩
end Jvm.Pilot.@@N@@

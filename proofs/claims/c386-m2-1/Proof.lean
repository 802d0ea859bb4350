import JvmDerived
import JvmDerived.Pilot.@@N@@Statement
import JvmDerived.Pilot.@@N@@Code
set_option linter.unusedVariables false
set_option linter.unusedSimpArgs false
namespace Jvm.Pilot.@@N@@
open Jvm Jvm.ClassFile Sem Op Lib Jvm.Free Jvm.Stand Jvm.LawKit Jvm.RoadKit Bundle Jvm.Pilot.@@N@@.Jvm.D
def Go (p : Program) (e : Env) (below : List Frame) (s : State) (Q : Option Value → Heap → List Loc → Prop) (C S : Nat) (V : State) : Prop :=
  ∃ (U : State) (o : Outcome), Steps p.tables e below V U ∧ U.status = .running ∧ Ended U below o ∧ ∃ v L, o = .returned v ∧ Q v U.heap L ∧ FrameEnd s o U L C S
def Ga (p : Program) (e : Env) (below : List Frame) (s : State) (Q : Option Value → Heap → List Loc → Prop) (C S : Nat) (T : State) (m : MethodId) (pc : Nat) (Ls : Array Slot) (st : List Value) : Prop :=
  Go p e below s Q C S (T.setTop (mkF m pc Ls st))
abbrev Ct (l : Launch) (Z : State) (y : MethodName) (bytes : ByteArray) (maxL : Nat) (ret : Option FieldType) (ws : List Jvm.Cond) (rm : Room) (as' : Array Value) (h0 : Heap) (Q : Option Value → Heap → List Loc → Prop) : Prop :=
  MetFree l y (head1 (Jvm.Cond.code y bytes maxL ret :: ws) rm) (fun a U => a = as' ∧ Z.Warmed39 U.vm ∧ U.heap = h0) (fun _ _ _ _ _ => True) (fun _ U o U' => ∃ v L, o = .returned v ∧ Q v U'.heap L ∧ FrameEnd U o U' L rm.cells rm.slots)
section GoKit
variable {p : Program} {l : Launch} {e : Env} {R : Room} {s : State} {m : MethodId} {args : Array Value} {below : List Frame} {meth : Method} {c : Code} {T T' : State} {locs : List Loc} {cells slots : Nat} {Q : Option Value → Heap → List Loc → Prop} {C S : Nat} {Z : State} {a0 : Array Value} {h : Heap} {pc q pc' : Nat} {Ls Ls' : Array Slot} {st st' : List Value} {own : String}
theorem Ga.stp (k : ∀ t, Steps p.tables e below (T'.setTop (mkF m pc' Ls' st')) t → Steps p.tables e below (T.setTop (mkF m pc Ls st)) t) (g : Ga p e below s Q C S T' m pc' Ls' st') : Ga p e below s Q C S T m pc Ls st := by
  obtain ⟨U, o, h, r⟩ := g
  exact ⟨U, o, k _ h, r⟩
theorem own_body {y : MethodName} {bytes : ByteArray} {maxL : Nat} {ret : Option FieldType} {ws : List Jvm.Cond} {rm : Room} {h0 : Heap} {as' : Array Value} (hpl : plainFor y = true) (hef : ∀ m, entryFrame m as' maxL = mkF m 0 Ls [])
    (body : ∀ (p : Program) (e : Env) (s : State) (m : MethodId) (below : List Frame) (meth : Method) (c : Code) (T : State), p.tables.exec = Jvm.exec → c.code = bytes → c.maxLocals = maxL → Z.Warmed39 s.vm → s.vm.findClass y.cls = some m.cls → meth.name = y.name → meth.sig.returnType = ret → meth.locks = false →
      Stand p l e rm s m as' below meth c T [] 0 0 → T.heap = h0 → Ga p e below s Q rm.cells rm.slots T m 0 Ls []) : Ct l Z y bytes maxL ret ws rm as' h0 Q := by
  refine MetFree.of_bodySF hpl hisR ?_
  intro p e s m args below meth c s₁ Bd hml0 hP hK
  obtain ⟨rfl, hZ, hh⟩ := hP
  have X0 : Stand p l e rm s m args below meth c s₁ [] 0 0 := Stand.of_body Bd
  have e0 : s₁.heap = h0 := by rw [← hh, Bd.state]; rfl
  obtain ⟨U, o, g1, g2⟩ := body p e s m below meth c s₁ Bd.exec Bd.bytes hml0 hZ (findClass_of_methodNamed Bd.named) (name_of_methodNamed Bd.named Bd.method).1 Bd.returns (BodyLoose.notSynchronized Bd) X0 e0
  exact ⟨U, o, castTop (hef m) g1, g2⟩
theorem Ga.out (X : Stand p l e R s m args below meth c T locs cells slots) {v : Option Value} (hlk : meth.locks = false) (hv : meth.sig.returnType = none → v = none) (hc : cells ≤ C) (hs : slots ≤ S) (hq : Q v T.heap locs)
    (k : ∀ fs, (∀ (f : JFrame) (acts : List Action), f.method = m → f.locked = none → f.entered = [] → (doReturn e (T.setTop f) acts v).1 = T.setFrames fs) → Steps p.tables e below (T.setTop (mkF m pc Ls st)) (T.setFrames fs)) : Ga p e below s Q C S T m pc Ls st := by
  obtain ⟨fs, hr, hrun, hended, hW, hsame⟩ := X.leave (v := v) hv hlk
  exact ⟨_, _, k fs hr, hrun, hended, _, _, rfl, hq, ⟨_, rfl⟩, hW, hsame.mono hc hs⟩
theorem g_iloadN (X : Stand p l e R s m args below meth c T locs cells slots) (hx : p.tables.exec = Jvm.exec) {k : Fin 4} {v : Int32} (hd : decode c.code pc = .ok (.iload_n k, 1)) (hp : pc + 1 = q) (hl : Ls[k.val]? = some (.val (.int v))) (g : Ga p e below s Q C S T m q Ls (.int v :: st)) : Ga p e below s Q C S T m pc Ls st := by
  subst hp
  exact Ga.stp (fun _ k => XS.iloadN X.here hx rfl hd hl k) g
theorem g_iload (X : Stand p l e R s m args below meth c T locs cells slots) (hx : p.tables.exec = Jvm.exec) {k : Nat} {v : Int32} (hd : decode c.code pc = .ok (.iload k, 2)) (hp : pc + 2 = q) (hl : Ls[k]? = some (.val (.int v))) (g : Ga p e below s Q C S T m q Ls (.int v :: st)) : Ga p e below s Q C S T m pc Ls st := by
  subst hp
  exact Ga.stp (fun _ k => XS.iload X.here hx rfl hd hl k) g
theorem g_aloadN (X : Stand p l e R s m args below meth c T locs cells slots) (hx : p.tables.exec = Jvm.exec) {k : Fin 4} {v : Value} (hd : decode c.code pc = .ok (.aload_n k, 1)) (hp : pc + 1 = q) (hl : Ls[k.val]? = some (.val v)) (hv : v.isRef = true) (g : Ga p e below s Q C S T m q Ls (v :: st)) : Ga p e below s Q C S T m pc Ls st := by
  subst hp
  exact Ga.stp (fun _ k => XS.aloadN X.here hx rfl hd hl hv k) g
theorem g_aload (X : Stand p l e R s m args below meth c T locs cells slots) (hx : p.tables.exec = Jvm.exec) {k : Nat} {v : Value} (hd : decode c.code pc = .ok (.aload k, 2)) (hp : pc + 2 = q) (hl : Ls[k]? = some (.val v)) (hv : v.isRef = true) (g : Ga p e below s Q C S T m q Ls (v :: st)) : Ga p e below s Q C S T m pc Ls st := by
  subst hp
  exact Ga.stp (fun _ k => XS.aload X.here hx rfl hd hl hv k) g
theorem g_istoreN (X : Stand p l e R s m args below meth c T locs cells slots) (hx : p.tables.exec = Jvm.exec) {k : Fin 4} {x : Int32} (hd : decode c.code pc = .ok (.istore_n k, 1)) (hp : pc + 1 = q) (hl : storeLocals Ls k.val (.int x) = some Ls') (g : Ga p e below s Q C S T m q Ls' st) : Ga p e below s Q C S T m pc Ls (.int x :: st) := by
  subst hp
  exact Ga.stp (fun _ k => XS.istoreN X.here hx rfl hd rfl hl k) g
theorem g_istore (X : Stand p l e R s m args below meth c T locs cells slots) (hx : p.tables.exec = Jvm.exec) {k : Nat} {x : Int32} (hd : decode c.code pc = .ok (.istore k, 2)) (hp : pc + 2 = q) (hl : storeLocals Ls k (.int x) = some Ls') (g : Ga p e below s Q C S T m q Ls' st) : Ga p e below s Q C S T m pc Ls (.int x :: st) := by
  subst hp
  exact Ga.stp (fun _ k => XS.istore X.here hx rfl hd rfl hl k) g
theorem g_astoreN (X : Stand p l e R s m args below meth c T locs cells slots) (hx : p.tables.exec = Jvm.exec) {k : Fin 4} {x : Value} (hd : decode c.code pc = .ok (.astore_n k, 1)) (hp : pc + 1 = q) (hv : x.isRef = true) (hl : storeLocals Ls k.val x = some Ls') (g : Ga p e below s Q C S T m q Ls' st) : Ga p e below s Q C S T m pc Ls (x :: st) := by
  subst hp
  exact Ga.stp (fun _ k => XS.astoreN X.here hx rfl hd rfl hv hl k) g
theorem g_astore (X : Stand p l e R s m args below meth c T locs cells slots) (hx : p.tables.exec = Jvm.exec) {k : Nat} {x : Value} (hd : decode c.code pc = .ok (.astore k, 2)) (hp : pc + 2 = q) (hv : x.isRef = true) (hl : storeLocals Ls k x = some Ls') (g : Ga p e below s Q C S T m q Ls' st) : Ga p e below s Q C S T m pc Ls (x :: st) := by
  subst hp
  exact Ga.stp (fun _ k => XS.astore X.here hx rfl hd rfl hv hl k) g
theorem g_iconst (X : Stand p l e R s m args below meth c T locs cells slots) (hx : p.tables.exec = Jvm.exec) {i : Int} {r : Int32} (hd : decode c.code pc = .ok (.iconst i, 1)) (hp : pc + 1 = q) (hr : Int32.ofInt i = r) (g : Ga p e below s Q C S T m q Ls (.int r :: st)) : Ga p e below s Q C S T m pc Ls st := by
  subst hp hr
  exact Ga.stp (fun _ k => XS.iconst X.here hx rfl hd k) g
theorem g_bipush (X : Stand p l e R s m args below meth c T locs cells slots) (hx : p.tables.exec = Jvm.exec) {i : Int} {r : Int32} (hd : decode c.code pc = .ok (.bipush i, 2)) (hp : pc + 2 = q) (hr : (Int8.ofInt i).toInt32 = r) (g : Ga p e below s Q C S T m q Ls (.int r :: st)) : Ga p e below s Q C S T m pc Ls st := by
  subst hp hr
  exact Ga.stp (fun _ k => XS.bipush X.here hx rfl hd k) g
theorem g_sipush (X : Stand p l e R s m args below meth c T locs cells slots) (hx : p.tables.exec = Jvm.exec) {i : Int} {r : Int32} (hd : decode c.code pc = .ok (.sipush i, 3)) (hp : pc + 3 = q) (hr : (Int16.ofInt i).toInt32 = r) (g : Ga p e below s Q C S T m q Ls (.int r :: st)) : Ga p e below s Q C S T m pc Ls st := by
  subst hp hr
  exact Ga.stp (fun _ k => XS.sipush X.here hx rfl hd k) g
theorem g_aconst_null (X : Stand p l e R s m args below meth c T locs cells slots) (hx : p.tables.exec = Jvm.exec) (hd : decode c.code pc = .ok (.aconst_null, 1)) (hp : pc + 1 = q)  (g : Ga p e below s Q C S T m q Ls (.null :: st)) : Ga p e below s Q C S T m pc Ls st := by
  subst hp
  exact Ga.stp (fun _ k => XS.aconstNull X.here hx rfl hd k) g
theorem g_isub (X : Stand p l e R s m args below meth c T locs cells slots) (hx : p.tables.exec = Jvm.exec) {x y r : Int32} (hd : decode c.code pc = .ok (.isub, 1)) (hp : pc + 1 = q) (hr : x - y = r) (g : Ga p e below s Q C S T m q Ls (.int r :: st)) : Ga p e below s Q C S T m pc Ls (.int y :: .int x :: st) := by
  subst hp hr
  exact Ga.stp (fun _ k => XS.isub X.here hx rfl hd rfl k) g
theorem g_iand (X : Stand p l e R s m args below meth c T locs cells slots) (hx : p.tables.exec = Jvm.exec) {x y r : Int32} (hd : decode c.code pc = .ok (.iand, 1)) (hp : pc + 1 = q) (hr : x &&& y = r) (g : Ga p e below s Q C S T m q Ls (.int r :: st)) : Ga p e below s Q C S T m pc Ls (.int y :: .int x :: st) := by
  subst hp hr
  exact Ga.stp (fun _ k => XS.iand X.here hx rfl hd rfl k) g
theorem g_iushr (X : Stand p l e R s m args below meth c T locs cells slots) (hx : p.tables.exec = Jvm.exec) {x y r : Int32} (hd : decode c.code pc = .ok (.iushr, 1)) (hp : pc + 1 = q) (hr : (x.toUInt32 >>> (y &&& 31).toUInt32).toInt32 = r) (g : Ga p e below s Q C S T m q Ls (.int r :: st)) : Ga p e below s Q C S T m pc Ls (.int y :: .int x :: st) := by
  subst hp hr
  exact Ga.stp (fun _ k => XS.iushr X.here hx rfl hd rfl k) g
theorem g_i2b (X : Stand p l e R s m args below meth c T locs cells slots) (hx : p.tables.exec = Jvm.exec) {x : Int32} {r : Int32} (hd : decode c.code pc = .ok (.i2b, 1)) (hp : pc + 1 = q) (hr : x.toInt8.toInt32 = r) (g : Ga p e below s Q C S T m q Ls (.int r :: st)) : Ga p e below s Q C S T m pc Ls (.int x :: st) := by
  subst hp hr
  exact Ga.stp (fun _ k => XS.i2b X.here hx rfl hd rfl k) g
theorem g_i2c (X : Stand p l e R s m args below meth c T locs cells slots) (hx : p.tables.exec = Jvm.exec) {x : Int32} {r : Int32} (hd : decode c.code pc = .ok (.i2c, 1)) (hp : pc + 1 = q) (hr : x.toUInt32.toUInt16.toUInt32.toInt32 = r) (g : Ga p e below s Q C S T m q Ls (.int r :: st)) : Ga p e below s Q C S T m pc Ls (.int x :: st) := by
  subst hp hr
  exact Ga.stp (fun _ k => XS.i2c X.here hx rfl hd rfl k) g
theorem g_dup (X : Stand p l e R s m args below meth c T locs cells slots) (hx : p.tables.exec = Jvm.exec) {x : Value} (hd : decode c.code pc = .ok (.dup, 1)) (hp : pc + 1 = q) (hc : x.category = 1) (g : Ga p e below s Q C S T m q Ls (x :: x :: st)) : Ga p e below s Q C S T m pc Ls (x :: st) := by
  subst hp
  exact Ga.stp (fun _ k => XS.dup X.here hx rfl hd rfl hc k) g
theorem g_iinc (X : Stand p l e R s m args below meth c T locs cells slots) (hx : p.tables.exec = Jvm.exec) {k : Nat} {cst : Int} {x r : Int32} (hd : decode c.code pc = .ok (.iinc k cst, 3)) (hp : pc + 3 = q) (hl : Ls[k]? = some (.val (.int x))) (hr : x + Int32.ofInt cst = r) (hl' : storeLocals Ls k (.int r) = some Ls') (g : Ga p e below s Q C S T m q Ls' st) : Ga p e below s Q C S T m pc Ls st := by
  subst hp hr
  exact Ga.stp (fun _ k => XS.iinc X.here hx rfl hd hl hl' k) g
theorem g_goto (X : Stand p l e R s m args below meth c T locs cells slots) (hx : p.tables.exec = Jvm.exec) {o : Int} (hd : decode c.code pc = .ok (.goto o, 3)) (ho : 0 ≤ (pc : Int) + o) (hp : ((pc : Int) + o).toNat = q) (g : Ga p e below s Q C S T m q Ls st) : Ga p e below s Q C S T m pc Ls st :=
  Ga.stp (fun _ k => XS.goto X.here hx rfl rfl hd ho hp k) g
theorem g_ifY (X : Stand p l e R s m args below meth c T locs cells slots) (hx : p.tables.exec = Jvm.exec) {cd : ClassFile.Cond} {x : Int32} {o : Int} (hd : decode c.code pc = .ok (.ifCond cd o, 3)) (hc : ifCond.holds cd x = true) (ho : 0 ≤ (pc : Int) + o) (hp : ((pc : Int) + o).toNat = q) (g : Ga p e below s Q C S T m q Ls st) : Ga p e below s Q C S T m pc Ls (.int x :: st) :=
  Ga.stp (fun _ k => XS.ifYes X.here hx rfl rfl hd rfl hc ho hp k) g
theorem g_ifN (X : Stand p l e R s m args below meth c T locs cells slots) (hx : p.tables.exec = Jvm.exec) {cd : ClassFile.Cond} {x : Int32} {o : Int} (hd : decode c.code pc = .ok (.ifCond cd o, 3)) (hp : pc + 3 = q) (hc : ifCond.holds cd x = false) (g : Ga p e below s Q C S T m q Ls st) : Ga p e below s Q C S T m pc Ls (.int x :: st) := by
  subst hp
  exact Ga.stp (fun _ k => XS.ifNo X.here hx rfl hd rfl hc k) g
theorem g_icmpY (X : Stand p l e R s m args below meth c T locs cells slots) (hx : p.tables.exec = Jvm.exec) {cd : ClassFile.Cond} {x y : Int32} {o : Int} (hd : decode c.code pc = .ok (.if_icmp cd o, 3)) (hc : if_icmp.holds cd x y = true) (ho : 0 ≤ (pc : Int) + o) (hp : ((pc : Int) + o).toNat = q) (g : Ga p e below s Q C S T m q Ls st) : Ga p e below s Q C S T m pc Ls (.int y :: .int x :: st) :=
  Ga.stp (fun _ k => XS.icmpYes X.here hx rfl rfl hd rfl hc ho hp k) g
theorem g_icmpN (X : Stand p l e R s m args below meth c T locs cells slots) (hx : p.tables.exec = Jvm.exec) {cd : ClassFile.Cond} {x y : Int32} {o : Int} (hd : decode c.code pc = .ok (.if_icmp cd o, 3)) (hp : pc + 3 = q) (hc : if_icmp.holds cd x y = false) (g : Ga p e below s Q C S T m q Ls st) : Ga p e below s Q C S T m pc Ls (.int y :: .int x :: st) := by
  subst hp
  exact Ga.stp (fun _ k => XS.icmpNo X.here hx rfl hd rfl hc k) g
theorem g_acmp (X : Stand p l e R s m args below meth c T locs cells slots) (hx : p.tables.exec = Jvm.exec) {cd : ClassFile.ACond} {x y : Value} {o : Int} {same : Bool} (hd : decode c.code pc = .ok (.if_acmp cd o, 3)) (h1 : x.isRef = true) (h2 : y.isRef = true) (hq : decide (x = y) = same) (ho : 0 ≤ (pc : Int) + o) (hp : q = if acV cd same = true then ((pc : Int) + o).toNat else pc + 3) (g : Ga p e below s Q C S T m q Ls st) : Ga p e below s Q C S T m pc Ls (y :: x :: st) :=
  Ga.stp (fun _ k => Jvm.RoadKit.acmp (g := mkF m pc Ls (y :: x :: st)) X hx rfl h1 h2 rfl hd rfl hq ho hp k) g
theorem g_retI (X : Stand p l e R s m args below meth c T locs cells slots) (hx : p.tables.exec = Jvm.exec) {z : Int32} (hret : meth.sig.returnType = some .int) (hlk : meth.locks = false) (hd : decode c.code pc = .ok (.ireturn, 1)) (hc : cells ≤ C) (hs : slots ≤ S) (hq : Q (some (.int z)) T.heap locs) : Ga p e below s Q C S T m pc Ls (.int z :: st) :=
  Ga.out X hlk (fun h => by rw [hret] at h; cases h) hc hs hq fun fs hr => retOut X hx hret rfl (Or.inl ⟨rfl, Or.inl rfl, z, rfl⟩) hd hr
theorem g_retN (X : Stand p l e R s m args below meth c T locs cells slots) (hx : p.tables.exec = Jvm.exec) {z r : Int32} {t : FieldType} (hret : meth.sig.returnType = some t) (ht : t = .boolean ∨ t = .byte ∨ t = .char ∨ t = .short) (hlk : meth.locks = false) (hd : decode c.code pc = .ok (.ireturn, 1)) (hr : nar t z = r) (hc : cells ≤ C) (hs : slots ≤ S) (hq : Q (some (.int r)) T.heap locs) : Ga p e below s Q C S T m pc Ls (.int z :: st) := by
  subst hr
  exact Ga.out X hlk (fun h => by rw [hret] at h; cases h) hc hs hq fun fs hr => retN X hx hret ht hd hr
theorem g_retR (X : Stand p l e R s m args below meth c T locs cells slots) (hx : p.tables.exec = Jvm.exec) {w : Value} {t : FieldType} (hret : meth.sig.returnType = some t) (hlk : meth.locks = false) (ht : t.isReference = true) (hn : narrow t w = w) (hw : w.isRef = true) (hd : decode c.code pc = .ok (.areturn, 1)) (hc : cells ≤ C) (hs : slots ≤ S) (hq : Q (some w) T.heap locs) : Ga p e below s Q C S T m pc Ls (w :: st) :=
  Ga.out X hlk (fun h => by rw [hret] at h; cases h) hc hs hq fun fs hr => retOut X hx hret hn (Or.inr (Or.inr (Or.inr (Or.inr ⟨rfl, ht, hw⟩)))) hd hr
theorem g_ret (X : Stand p l e R s m args below meth c T locs cells slots) (hx : p.tables.exec = Jvm.exec) (hret : meth.sig.returnType = none) (hlk : meth.locks = false) (hd : decode c.code pc = .ok (.return_, 1)) (hc : cells ≤ C) (hs : slots ≤ S) (hq : Q none T.heap locs) : Ga p e below s Q C S T m pc Ls [] :=
  Ga.out X hlk (fun _ => rfl) hc hs hq fun fs hr => X.returnOut hx hret hd hr
theorem g_new (X : Stand p l e R s m args below meth c T locs cells slots) (hx : p.tables.exec = Jvm.exec) (hZ : Z.Warmed39 s.vm) (hown : s.vm.findClass own = some m.cls) {K : String} {index n : Nat} (w : (Cond.classLink own index K).before a0 Z = true) (wi : (Cond.instantiable K n).before a0 Z = true) (wz : (Cond.initialized K).before a0 Z = true) (eT : T.heap = h)
    (hd : decode c.code pc = .ok (.new index, 3)) (hp : pc + 3 = q) (hc : cells + 1 ≤ R.cells) (hl : slots + n ≤ R.slots)
    (k : ∀ T' h' b, Stand p l e R s m args below meth c T' locs (cells + 1) (slots + n) → T'.heap = h' → b = h.size → Ext h h' → Exa Z h' b K → (∀ {O nm d : String} {ty : FieldType}, Laid Z a0 K O nm d → parseFieldDescriptor d = some ty → Fld Z h' b O nm d (defaultValue ty)) → Ga p e below s Q C S T' m q Ls (.ref b :: st)) : Ga p e below s Q C S T m pc Ls st := by
  subst hp
  obtain ⟨T', h', X', e', E', A', D', -, sx⟩ := newO X hx hZ hown w wi wz eT (g := mkF m pc Ls st) rfl hd hc hl
  exact Ga.stp sx (k T' h' _ X' e' rfl E' A' D')
theorem g_getF (X : Stand p l e R s m args below meth c T locs cells slots) (hx : p.tables.exec = Jvm.exec) (hZ : Z.Warmed39 s.vm) (hown : s.vm.findClass own = some m.cls) {R0 O n d host : String} {index : Nat} (w : (Cond.fieldLink own index R0 n d).before a0 Z = true ∨ (Cond.fieldLinkNest own index R0 n d host).before a0 Z = true) (via : Via Z R0 O n d) (eT : T.heap = h) {a : Addr} {v : Value} (F : Fld Z h a O n d v)
    (hd : decode c.code pc = .ok (.getfield index, 3)) (hp : pc + 3 = q) (k : ∀ T', Stand p l e R s m args below meth c T' locs cells slots → T'.heap = h → Ga p e below s Q C S T' m q Ls (v :: st)) : Ga p e below s Q C S T m pc Ls (.ref a :: st) := by
  subst hp
  obtain ⟨T', X', e', sx⟩ := getF X hx hZ hown w via eT F (g := mkF m pc Ls (.ref a :: st)) rfl rfl hd
  exact Ga.stp sx (k T' X' e')
theorem g_getS (X : Stand p l e R s m args below meth c T locs cells slots) (hx : p.tables.exec = Jvm.exec) (hZ : Z.Warmed39 s.vm) (hown : s.vm.findClass own = some m.cls) {R0 O n d host : String} {index : Nat} (w : (Cond.fieldLink own index R0 n d).before a0 Z = true ∨ (Cond.fieldLinkNest own index R0 n d host).before a0 Z = true) (via : Via Z R0 O n d) (eT : T.heap = h) {v : Value} (F : Sta Z h O n d v)
    (hd : decode c.code pc = .ok (.getstatic index, 3)) (hp : pc + 3 = q) (k : ∀ T', Stand p l e R s m args below meth c T' locs cells slots → T'.heap = h → Ga p e below s Q C S T' m q Ls (v :: st)) : Ga p e below s Q C S T m pc Ls st := by
  subst hp
  obtain ⟨T', X', e', sx⟩ := getS2 X hx hZ hown w via eT F (g := mkF m pc Ls st) rfl hd
  exact Ga.stp sx (k T' X' e')
theorem g_putF (X : Stand p l e R s m args below meth c T locs cells slots) (hx : p.tables.exec = Jvm.exec) (hZ : Z.Warmed39 s.vm) (hown : s.vm.findClass own = some m.cls) {R0 O n d host K : String} {index kk : Nat} {ty : FieldType} (w : (Cond.fieldLink own index R0 n d).before a0 Z = true ∨ (Cond.fieldLinkNest own index R0 n d host).before a0 Z = true) (via : Via Z R0 O n d) (eT : T.heap = h) {a : Addr} {v old : Value} (F : Fld Z h a O n d old) (E : Exa Z h a K)
    (L : (Cond.lays K O n d).before a0 Z = true ∨ ((Cond.laysFinal K O n d).before a0 Z = true ∧ own = O ∧ meth.name = "<init>")) (wi : (Cond.instantiable K kk).before a0 Z = true) (hty : parseFieldDescriptor d = some ty) (hn : narrow ty v = v) (hf : fits ty v = true)
    (hd : decode c.code pc = .ok (.putfield index, 3)) (hp : pc + 3 = q) (k : ∀ T' h', Stand p l e R s m args below meth c T' (locs ++ [⟨a, Jvm.RoadKit.slotOf Z O n d⟩]) cells slots → T'.heap = h' → Wr h h' a (Jvm.RoadKit.slotOf Z O n d) v → Fld Z h' a O n d v → Ga p e below s Q C S T' m q Ls st) : Ga p e below s Q C S T m pc Ls (v :: .ref a :: st) := by
  subst hp
  obtain ⟨T', h', X', e', W', sx⟩ := putF X hx hZ hown w via eT F E L wi hty hn hf (g := mkF m pc Ls (v :: .ref a :: st)) rfl rfl hd
  exact Ga.stp sx (k T' h' X' e' W' (F.same W'))
theorem g_initO (X : Stand p l e R s m args below meth c T locs cells slots) (hx : p.tables.exec = Jvm.exec) (hZ : Z.Warmed39 s.vm) (hown : s.vm.findClass own = some m.cls) {idx : Nat} (w1 : (Cond.methodLink own idx Lib.objectInit).before a0 Z = true) (w2 : (Cond.instanceMethod Lib.objectInit).before a0 Z = true) (w3 : (Cond.code Lib.objectInit ⟨#[0xb1]⟩ 1 none).before a0 Z = true) (eT : T.heap = h) (hsz : Ls.size = c.maxLocals) {a : Addr}
    (hd : decode c.code pc = .ok (.invokespecial idx, 3)) (hp : pc + 3 = q) (hf : 1 ≤ R.frames) {W : Nat} (hW : (st.map fun v => v.category).sum ≤ W) (hl : W + 12 ≤ R.locals) (k : ∀ T', Stand p l e R s m args below meth c T' locs cells slots → T'.heap = h → Ga p e below s Q C S T' m q Ls st) : Ga p e below s Q C S T m pc Ls (.ref a :: st) := by
  subst hp
  obtain ⟨T', X', e', sx⟩ := initO X hx hZ hown w1 w2 w3 eT (g := mkF m pc Ls (.ref a :: st)) rfl hsz rfl hd hf (W := W) (by show 2 * 0 + _ ≤ _; omega) hl
  exact Ga.stp sx (k T' X' e')
theorem g_static (X : Stand p l e R s m args below meth c T locs cells slots) (hx : p.tables.exec = Jvm.exec) (hZ : Z.Warmed39 s.vm) (hown : s.vm.findClass own = some m.cls) {index : Nat} {y : MethodName} {ret : Option FieldType} {bytes : ByteArray} {maxL : Nat} {rm : Room} {as' : Array Value} {Q' : Option Value → Heap → List Loc → Prop} (w1 : (Cond.methodLink own index y).before a0 Z = true) (w2 : (Cond.static y).before a0 Z = true) (w3 : (Cond.initialized y.cls).before a0 Z = true) (w4 : (Cond.code y bytes maxL ret).before a0 Z = true) (hy : y.cls ≠ "java/lang/invoke/MethodHandle" ∧ y.cls ≠ "java/lang/invoke/VarHandle")
    (hM : Ct l Z y bytes maxL ret [] rm as' h Q') (hsz : Ls.size = c.maxLocals) (eT : T.heap = h) (argsL : List Value) {rest : List Value} (has : as' = argsL.toArray) (hst : st = argsL.reverse ++ rest) {W : Nat} (hW : (rest.map fun v => v.category).sum ≤ W) (hf : rm.frames + 1 ≤ R.frames) (hl : W + (maxL + 11) + rm.locals ≤ R.locals) (hcl : cells + rm.cells ≤ R.cells) (hsl : slots + rm.slots ≤ R.slots) (hlen : ∀ sig, parseMethodDescriptor y.desc = some sig → argsL.length = sig.parameters.length) (hd : decode c.code pc = .ok (.invokestatic index, 3)) (hp : pc + 3 = q) (k : ∀ v T' L, Stand p l e R s m args below meth c T' (locs ++ L) (cells + rm.cells) (slots + rm.slots) → Q' v T'.heap L → Ga p e below s Q C S T' m q Ls (v.toList ++ rest)) : Ga p e below s Q C S T m pc Ls st := by
  subst hp has hst
  obtain ⟨_, _, ⟨T', L', k', n'⟩, -, X', ⟨Lc, hQ', l1, y1, z1⟩, sx⟩ := Jvm.LawKit.callS X hx (y := y) hown (mvT hZ w1) (mvT hZ w2) (mvT hZ w3) (mvT hZ w4) hy (backOf (W := W) hM hZ w4 w3 hf hl) (g := mkF m pc Ls (argsL.reverse ++ rest)) rfl hsz (argsL := argsL) (rest := rest) hlen rfl (by show 2 * 0 + _ ≤ _; omega) hd (fun _ _ => ⟨rfl, eT, hcl, hsl⟩)
  dsimp only [Pt.U, Pt.locs, Pt.cells, Pt.slots] at X' l1 y1 z1 sx hQ'
  subst l1 y1 z1
  exact Ga.stp sx (k _ T' Lc X' hQ')
theorem g_special (X : Stand p l e R s m args below meth c T locs cells slots) (hx : p.tables.exec = Jvm.exec) (hZ : Z.Warmed39 s.vm) (hown : s.vm.findClass own = some m.cls) {index : Nat} {y : MethodName} {bytes : ByteArray} {maxL : Nat} {rm : Room} {as' : Array Value} {Q' : Option Value → Heap → List Loc → Prop} (hy1 : y.name = "<init>") (w1 : (Cond.methodLink own index y).before a0 Z = true) (w2 : (Cond.instanceMethod y).before a0 Z = true) (w3 : (Cond.initialized y.cls).before a0 Z = true) (w4 : (Cond.code y bytes maxL none).before a0 Z = true) (hy : y.cls ≠ "java/lang/invoke/MethodHandle" ∧ y.cls ≠ "java/lang/invoke/VarHandle") {a : Addr}
    (hM : Ct l Z y bytes maxL none [] rm as' h Q') (hsz : Ls.size = c.maxLocals) (eT : T.heap = h) (argsL : List Value) {rest : List Value} (has : as' = (.ref a :: argsL).toArray) (hst : st = argsL.reverse ++ .ref a :: rest) {W : Nat} (hW : (rest.map fun v => v.category).sum ≤ W) (hf : rm.frames + 1 ≤ R.frames) (hl : W + (maxL + 11) + rm.locals ≤ R.locals) (hcl : cells + rm.cells ≤ R.cells) (hsl : slots + rm.slots ≤ R.slots) (hlen : ∀ sig, parseMethodDescriptor y.desc = some sig → argsL.length = sig.parameters.length) (hd : decode c.code pc = .ok (.invokespecial index, 3)) (hp : pc + 3 = q) (k : ∀ v T' L, Stand p l e R s m args below meth c T' (locs ++ L) (cells + rm.cells) (slots + rm.slots) → Q' v T'.heap L → Ga p e below s Q C S T' m q Ls (v.toList ++ rest)) : Ga p e below s Q C S T m pc Ls st := by
  subst hp has hst
  obtain ⟨_, _, ⟨T', L', k', n'⟩, -, X', ⟨Lc, hQ', l1, y1, z1⟩, sx⟩ := X.specialBack hx (y := y) hy1 hown (mvT hZ w1) (mvT hZ w2) (mvT hZ w4) hy (backOf (W := W) hM hZ w4 w3 hf hl) (g := mkF m pc Ls (argsL.reverse ++ .ref a :: rest)) rfl hsz (Steps.refl _) (a := a) (argsL := argsL) (rest := rest) hlen rfl (by show 2 * 0 + _ ≤ _; omega) hd (fun _ _ => ⟨rfl, eT, hcl, hsl⟩)
  dsimp only [Pt.U, Pt.locs, Pt.cells, Pt.slots] at X' l1 y1 z1 sx hQ'
  subst l1 y1 z1
  exact Ga.stp (fun _ kk => sx.trans kk) (k _ T' Lc X' hQ')
theorem g_virtual (X : Stand p l e R s m args below meth c T locs cells slots) (hx : p.tables.exec = Jvm.exec) (hZ : Z.Warmed39 s.vm) (hown : s.vm.findClass own = some m.cls) {index : Nat} {y z : MethodName} {K : String} {ret : Option FieldType} {bytes : ByteArray} {maxL : Nat} {rm : Room} {as' : Array Value} {Q' : Option Value → Heap → List Loc → Prop} (w1 : (Cond.methodLink own index y).before a0 Z = true) (w2 : (Cond.declares y).before a0 Z = true) (nf : NotFace s y) (w3 : (Cond.selects K y z).before a0 Z = true) (w4 : (Cond.instanceMethod z).before a0 Z = true) (w5 : (Cond.initialized z.cls).before a0 Z = true) (w6 : (Cond.code z bytes maxL ret).before a0 Z = true) (hy : y.cls ≠ "java/lang/invoke/MethodHandle" ∧ y.cls ≠ "java/lang/invoke/VarHandle") {a : Addr} (E : Exa Z h a K)
    (hM : Ct l Z z bytes maxL ret [] rm as' h Q') (hsz : Ls.size = c.maxLocals) (eT : T.heap = h) (argsL : List Value) {rest : List Value} (has : as' = (.ref a :: argsL).toArray) (hst : st = argsL.reverse ++ .ref a :: rest) {W : Nat} (hW : (rest.map fun v => v.category).sum ≤ W) (hf : rm.frames + 1 ≤ R.frames) (hl : W + (maxL + 11) + rm.locals ≤ R.locals) (hcl : cells + rm.cells ≤ R.cells) (hsl : slots + rm.slots ≤ R.slots) (hlen : ∀ sig, parseMethodDescriptor y.desc = some sig → argsL.length = sig.parameters.length) (hd : decode c.code pc = .ok (.invokevirtual index, 3)) (hp : pc + 3 = q) (k : ∀ v T' L, Stand p l e R s m args below meth c T' (locs ++ L) (cells + rm.cells) (slots + rm.slots) → Q' v T'.heap L → Ga p e below s Q C S T' m q Ls (v.toList ++ rest)) : Ga p e below s Q C S T m pc Ls st := by
  subst hp has hst
  obtain ⟨cq, kq, qa, qb, qc⟩ := isOf hZ eT E
  obtain ⟨_, _, ⟨T', L', k', n'⟩, -, X', ⟨Lc, hQ', l1, y1, z1⟩, sx⟩ := X.virtualBack hx (y := y) (z := z) hown (mvT hZ w1) (mvT hZ w2) nf (mvT hZ w3) (mvT hZ w4) hy (backOf (W := W) hM hZ w6 w5 hf hl) qa qc (g := mkF m pc Ls (argsL.reverse ++ .ref a :: rest)) rfl hsz (Steps.refl _) (argsL := argsL) (rest := rest) hlen rfl (by show 2 * 0 + _ ≤ _; omega) hd (fun _ _ => ⟨rfl, eT, hcl, hsl⟩)
  dsimp only [Pt.U, Pt.locs, Pt.cells, Pt.slots] at X' l1 y1 z1 sx hQ'
  subst l1 y1 z1
  exact Ga.stp (fun _ kk => sx.trans kk) (k _ T' Lc X' hQ')
variable {ka : ClassId} {ty : FieldType} {z j : Int32} {vs : List Value} {dv : Value} {a : Addr}
theorem g_len (X : Stand p l e R s m args below meth c T locs cells slots) (hx : p.tables.exec = Jvm.exec) (hZ : Z.Warmed39 s.vm) (eT : T.heap = h) (A : Arv Z h a ka ty z vs dv) (hd : decode c.code pc = .ok (.arraylength, 1)) (hp : pc + 1 = q) (g : Ga p e below s Q C S T m q Ls (.int z :: st)) : Ga p e below s Q C S T m pc Ls (.ref a :: st) := by
  subst hp
  obtain ⟨cl, Ar, -, Sz, N, -, -⟩ := A
  refine Ga.stp (fun t k => X.arraylength hx (by rw [eT]; exact Ar.1) (State.isArrayOf_alike hZ.alike Ar.2.1) (g := mkF m pc Ls (.ref a :: st)) rfl rfl hd t ?_) g
  rw [len_of Sz N]; exact k
theorem g_iaload (X : Stand p l e R s m args below meth c T locs cells slots) (hx : p.tables.exec = Jvm.exec) (hZ : Z.Warmed39 s.vm) (eT : T.heap = h) (A : Arv Z h a ka .int z vs dv) {v : Value} (hin : ¬ j < 0 ∧ j < z) (hv : vs.getD j.toNatClampNeg dv = v) (hd : decode c.code pc = .ok (.iaload, 1)) (hp : pc + 1 = q) (g : Ga p e below s Q C S T m q Ls (v :: st)) : Ga p e below s Q C S T m pc Ls (.int j :: .ref a :: st) := by
  subst hp
  obtain ⟨cl, Ar, -, Sz, N, Hs, -⟩ := A
  exact Ga.stp (fun t k => X.iaload hx (j := j) (v := v) (by rw [eT]; exact Ar.1) (State.isArrayOf_alike hZ.alike Ar.2.1) Ar.2.2 (inb_of Sz hin) (Hs.at (inb_of Sz hin) hv) (g := mkF m pc Ls (.int j :: .ref a :: st)) rfl rfl hd t k) g
theorem g_caload (X : Stand p l e R s m args below meth c T locs cells slots) (hx : p.tables.exec = Jvm.exec) (hZ : Z.Warmed39 s.vm) (eT : T.heap = h) (A : Arv Z h a ka .char z vs dv) {v : Value} (hin : ¬ j < 0 ∧ j < z) (hv : vs.getD j.toNatClampNeg dv = v) (hd : decode c.code pc = .ok (.caload, 1)) (hp : pc + 1 = q) (g : Ga p e below s Q C S T m q Ls (v :: st)) : Ga p e below s Q C S T m pc Ls (.int j :: .ref a :: st) := by
  subst hp
  obtain ⟨cl, Ar, -, Sz, N, Hs, -⟩ := A
  exact Ga.stp (fun t k => X.caload hx (j := j) (v := v) (by rw [eT]; exact Ar.1) (State.isArrayOf_alike hZ.alike Ar.2.1) Ar.2.2 (inb_of Sz hin) (Hs.at (inb_of Sz hin) hv) (g := mkF m pc Ls (.int j :: .ref a :: st)) rfl rfl hd t k) g
theorem g_aaload (X : Stand p l e R s m args below meth c T locs cells slots) (hx : p.tables.exec = Jvm.exec) (hZ : Z.Warmed39 s.vm) (eT : T.heap = h) (A : Arv Z h a ka ty z vs dv) (hr : ty.isReference = true) {v : Value} (hin : ¬ j < 0 ∧ j < z) (hv : vs.getD j.toNatClampNeg dv = v) (hd : decode c.code pc = .ok (.aaload, 1)) (hp : pc + 1 = q) (g : Ga p e below s Q C S T m q Ls (v :: st)) : Ga p e below s Q C S T m pc Ls (.int j :: .ref a :: st) := by
  subst hp
  obtain ⟨cl, Ar, -, Sz, N, Hs, -⟩ := A
  exact Ga.stp (fun t k => X.aaload hx (j := j) (v := v) (by rw [eT]; exact Ar.1) (State.isArrayOf_alike hZ.alike Ar.2.1) hr Ar.2.2 (inb_of Sz hin) (Hs.at (inb_of Sz hin) hv) (g := mkF m pc Ls (.int j :: .ref a :: st)) rfl rfl hd t k) g
theorem g_iastore (X : Stand p l e R s m args below meth c T locs cells slots) (hx : p.tables.exec = Jvm.exec) (hZ : Z.Warmed39 s.vm) (eT : T.heap = h) (A : Arv Z h a ka .int z vs dv) {x : Int32} (hin : ¬ j < 0 ∧ j < z) (hlen : j.toNatClampNeg < vs.length) (hd : decode c.code pc = .ok (.iastore, 1)) (hp : pc + 1 = q)
    (k : ∀ T' h', Stand p l e R s m args below meth c T' (locs ++ [⟨a, j.toNatClampNeg⟩]) cells slots → T'.heap = h' → Wr h h' a j.toNatClampNeg (.int x) → Arv Z h' a ka .int z (vs.set j.toNatClampNeg (.int x)) dv → Ga p e below s Q C S T' m q Ls st) : Ga p e below s Q C S T m pc Ls (.int x :: .int j :: .ref a :: st) := by
  subst hp
  obtain ⟨cl, Ar, q1, Sz, N, Hs, Gs⟩ := A
  obtain ⟨T', h', X', e', W', sx⟩ := stI X hx hZ eT Ar (j := j) (inb_of Sz hin) (g := mkF m pc Ls (.int x :: .int j :: .ref a :: st)) rfl rfl hd
  exact Ga.stp sx (k T' h' X' e' W' (Arv.set Ar q1 Sz N Hs Gs rfl W' _ rfl hlen))
theorem g_bastore (X : Stand p l e R s m args below meth c T locs cells slots) (hx : p.tables.exec = Jvm.exec) (hZ : Z.Warmed39 s.vm) (eT : T.heap = h) (A : Arv Z h a ka .byte z vs dv) {x : Int32} (hin : ¬ j < 0 ∧ j < z) (hlen : j.toNatClampNeg < vs.length) (hd : decode c.code pc = .ok (.bastore, 1)) (hp : pc + 1 = q)
    (k : ∀ T' h', Stand p l e R s m args below meth c T' (locs ++ [⟨a, j.toNatClampNeg⟩]) cells slots → T'.heap = h' → Wr h h' a j.toNatClampNeg (.int (nar .byte x)) → Arv Z h' a ka .byte z (vs.set j.toNatClampNeg (.int (nar .byte x))) dv → Ga p e below s Q C S T' m q Ls st) : Ga p e below s Q C S T m pc Ls (.int x :: .int j :: .ref a :: st) := by
  subst hp
  obtain ⟨cl, Ar, q1, Sz, N, Hs, Gs⟩ := A
  obtain ⟨T', h', X', e', W', sx⟩ := stB X hx hZ eT Ar (j := j) (inb_of Sz hin) (g := mkF m pc Ls (.int x :: .int j :: .ref a :: st)) rfl rfl hd
  exact Ga.stp sx (k T' h' X' e' W' (Arv.set Ar q1 Sz N Hs Gs (fits_nar_byte x) W' _ rfl hlen))
theorem g_castore (X : Stand p l e R s m args below meth c T locs cells slots) (hx : p.tables.exec = Jvm.exec) (hZ : Z.Warmed39 s.vm) (eT : T.heap = h) (A : Arv Z h a ka .char z vs dv) {x : Int32} (hin : ¬ j < 0 ∧ j < z) (hlen : j.toNatClampNeg < vs.length) (hd : decode c.code pc = .ok (.castore, 1)) (hp : pc + 1 = q)
    (k : ∀ T' h', Stand p l e R s m args below meth c T' (locs ++ [⟨a, j.toNatClampNeg⟩]) cells slots → T'.heap = h' → Wr h h' a j.toNatClampNeg (.int (nar .char x)) → Arv Z h' a ka .char z (vs.set j.toNatClampNeg (.int (nar .char x))) dv → Ga p e below s Q C S T' m q Ls st) : Ga p e below s Q C S T m pc Ls (.int x :: .int j :: .ref a :: st) := by
  subst hp
  obtain ⟨cl, Ar, q1, Sz, N, Hs, Gs⟩ := A
  obtain ⟨T', h', X', e', W', sx⟩ := stC X hx hZ eT Ar (j := j) (inb_of Sz hin) (g := mkF m pc Ls (.int x :: .int j :: .ref a :: st)) rfl rfl hd
  exact Ga.stp sx (k T' h' X' e' W' (Arv.set Ar q1 Sz N Hs Gs (fits_nar_char x) W' _ rfl hlen))
theorem g_aastore (X : Stand p l e R s m args below meth c T locs cells slots) (hx : p.tables.exec = Jvm.exec) (hZ : Z.Warmed39 s.vm) (eT : T.heap = h) (A : Arv Z h a ka ty z vs dv) (hr : ty.isReference = true) {x : Value} (hfi : fits ty x = true) (F : Sto Z h a x) (hin : ¬ j < 0 ∧ j < z) (hlen : j.toNatClampNeg < vs.length) (hd : decode c.code pc = .ok (.aastore, 1)) (hp : pc + 1 = q)
    (k : ∀ T' h', Stand p l e R s m args below meth c T' (locs ++ [⟨a, j.toNatClampNeg⟩]) cells slots → T'.heap = h' → Wr h h' a j.toNatClampNeg x → Arv Z h' a ka ty z (vs.set j.toNatClampNeg x) dv → Ga p e below s Q C S T' m q Ls st) : Ga p e below s Q C S T m pc Ls (x :: .int j :: .ref a :: st) := by
  subst hp
  obtain ⟨cl, Ar, q1, Sz, N, Hs, Gs⟩ := A
  obtain ⟨T', h', X', e', W', sx⟩ := stR X hx hZ eT Ar (j := j) (inb_of Sz hin) hr F (g := mkF m pc Ls (x :: .int j :: .ref a :: st)) rfl rfl hd
  exact Ga.stp sx (k T' h' X' e' W' (Arv.set Ar q1 Sz N Hs Gs hfi W' _ rfl hlen))
theorem own_sto {y : Addr} {K : String} (A : Arv Z h a ka ty z vs dv) (O : Ovr Z ka K) (I : Ins Z h y K true) : Sto Z h a (.ref y) := by
  obtain ⟨cl, Ar, q1, -⟩ := A
  exact Sto.ofV Ar q1 O I
theorem g_newarray (X : Stand p l e R s m args below meth c T locs cells slots) (hx : p.tables.exec = Jvm.exec) (hZ : Z.Warmed39 s.vm) {aty : ArrayType} (w : (Cond.arrayClass (newarray.typeOf aty)).before a0 Z = true) (eT : T.heap = h) {n : Int32} (hn : ¬ n < 0) (cap : Nat) (hcap : n.toNatClampNeg ≤ cap) (hb : cap * 8 ≤ 536870912) (hc : cells + 1 ≤ R.cells) (hl : slots + cap ≤ R.slots) {ad : String} (had : "[" ++ (newarray.typeOf aty).toString = ad) (hd : decode c.code pc = .ok (.newarray aty, 2)) (hp : pc + 2 = q)
    (k : ∀ T' h' b kA, Stand p l e R s m args below meth c T' locs (cells + 1) (slots + cap) → T'.heap = h' → b = h.size → Ext h h' → Exa Z h' b ad → Arv Z h' b kA (newarray.typeOf aty) n (List.replicate cap (defaultValue (newarray.typeOf aty))) (defaultValue (newarray.typeOf aty)) → Ga p e below s Q C S T' m q Ls (.ref b :: st)) : Ga p e below s Q C S T m pc Ls (.int n :: st) := by
  subst hp
  obtain ⟨T', h', cA, X', e', E', A', Ea, sx⟩ := newPE X hx hZ w eT (g := mkF m pc Ls (.int n :: st)) rfl hd rfl hn hcap hb hc hl had
  exact Ga.stp sx (k T' h' _ cA X' e' rfl E' Ea ((Arv.new A' hn).pad (by simpa using pad_rep [] (defaultValue (newarray.typeOf aty)) cap)))
theorem g_anewarray (X : Stand p l e R s m args below meth c T locs cells slots) (hx : p.tables.exec = Jvm.exec) (hZ : Z.Warmed39 s.vm) (hown : s.vm.findClass own = some m.cls) {K : String} {index : Nat} (w1 : (Cond.classLink own index K).before a0 Z = true) (w2 : (Cond.arrayOver (.object K)).before a0 Z = true) (eT : T.heap = h) {n : Int32} (hn : ¬ n < 0) (cap : Nat) (hcap : n.toNatClampNeg ≤ cap) (hb : cap * 8 ≤ 536870912) (hc : cells + 1 ≤ R.cells) (hl : slots + cap ≤ R.slots) {ad : String} (had : "[" ++ (FieldType.object K).toString = ad) (hd : decode c.code pc = .ok (.anewarray index, 3)) (hp : pc + 3 = q)
    (k : ∀ T' h' b kA, Stand p l e R s m args below meth c T' locs (cells + 1) (slots + cap) → T'.heap = h' → b = h.size → Ext h h' → Exa Z h' b ad → Ovr Z kA K → Arv Z h' b kA (.object K) n (List.replicate cap .null) .null → Ga p e below s Q C S T' m q Ls (.ref b :: st)) : Ga p e below s Q C S T m pc Ls (.int n :: st) := by
  subst hp
  obtain ⟨T', h', cA, X', e', E', A', Ea, O', sx⟩ := newRE X hx hZ hown w1 w2 eT (g := mkF m pc Ls (.int n :: st)) rfl hd rfl hn hcap hb hc hl had
  exact Ga.stp sx (k T' h' _ cA X' e' rfl E' Ea O' ((Arv.new A' hn).pad (by show ∀ i, (List.replicate cap (defaultValue (FieldType.object K))).getD i (defaultValue (FieldType.object K)) = [].getD i (defaultValue (FieldType.object K)); simpa using pad_rep [] (defaultValue (FieldType.object K)) cap)))
theorem own_ne {b : Addr} (h1 : a < h.size) (h2 : b = h.size) : a ≠ b := Nat.ne_of_lt (h2 ▸ h1)
theorem own_neK {b : Addr} (h1 : a < h.size) (h2 : h.size ≤ b) : a ≠ b := Nat.ne_of_lt (Nat.lt_of_lt_of_le h1 h2)
end GoKit

theorem own_irrI (x : Int32) : ¬ x < x := Int32.lt_irrefl
theorem own_irrJ (x : Int64) : ¬ x < x := Int64.lt_irrefl
theorem own_narc (x : Int32) : nar .char (x &&& (255 : Int32)) = (x &&& (255 : Int32)) := i2c_mask x
theorem own_nar (x : Int32) : nar .byte x = x.toInt8.toInt32 := rfl
theorem own_bb (x : Int32) : x.toInt8.toInt32.toInt8.toInt32 = x.toInt8.toInt32 := by simp
theorem own_nb {h : Heap} {b b' y : Addr} (hb : b' = b ∨ h.size ≤ b') (lt : y < h.size) (ne : y ≠ b) : y ≠ b' := hb.elim (fun q => q ▸ ne) (fun q => Nat.ne_of_lt (Nat.lt_of_lt_of_le lt q))
theorem own_ng {h : Heap} {b b' : Addr} {n0 : Nat} (hb : b' = b ∨ h.size ≤ b') (g : n0 ≤ b) (Z : n0 ≤ h.size) : n0 ≤ b' := hb.elim (fun q => q ▸ g) (fun q => Nat.le_trans Z q)
theorem own_insK {Z : State} {h h' : Heap} {a : Addr} {C : String} {ws : List Addr} (F : Ins Z h a C true) (K : Keep h h' ws) : Ins Z h' a C true := by
  obtain ⟨cell, cT, h1, h2, h3⟩ := F
  obtain ⟨c', q1, q2, q3, -⟩ := K.2.2 _ _ h1
  exact ⟨c', cT, q1, h2, by rw [q2, q3]; exact h3⟩
theorem d_jdk_52_m_21_0 : decode jdk_52_method_21_code 0 = .ok (.iconst 0, 1) := by decide +kernel
theorem d_jdk_52_m_21_1 : decode jdk_52_method_21_code 1 = .ok (.istore 5, 2) := by decide +kernel
theorem d_jdk_52_m_21_3 : decode jdk_52_method_21_code 3 = .ok (.iload 5, 2) := by decide +kernel
theorem d_jdk_52_m_21_5 : decode jdk_52_method_21_code 5 = .ok (.iload 4, 2) := by decide +kernel
theorem d_jdk_52_m_21_7 : decode jdk_52_method_21_code 7 = .ok (.if_icmp .ge 37, 3) := by decide +kernel
theorem d_jdk_52_m_21_10 : decode jdk_52_method_21_code 10 = .ok (.aload_n 0, 1) := by decide +kernel
theorem d_jdk_52_m_21_11 : decode jdk_52_method_21_code 11 = .ok (.iload_n 1, 1) := by decide +kernel
theorem d_jdk_52_m_21_12 : decode jdk_52_method_21_code 12 = .ok (.caload, 1) := by decide +kernel
theorem d_jdk_52_m_21_13 : decode jdk_52_method_21_code 13 = .ok (.istore 6, 2) := by decide +kernel
theorem d_jdk_52_m_21_15 : decode jdk_52_method_21_code 15 = .ok (.iload 6, 2) := by decide +kernel
theorem d_jdk_52_m_21_17 : decode jdk_52_method_21_code 17 = .ok (.sipush 255, 3) := by decide +kernel
theorem d_jdk_52_m_21_20 : decode jdk_52_method_21_code 20 = .ok (.if_icmp .le 6, 3) := by decide +kernel
theorem d_jdk_52_m_21_26 : decode jdk_52_method_21_code 26 = .ok (.aload_n 2, 1) := by decide +kernel
theorem d_jdk_52_m_21_27 : decode jdk_52_method_21_code 27 = .ok (.iload_n 3, 1) := by decide +kernel
theorem d_jdk_52_m_21_28 : decode jdk_52_method_21_code 28 = .ok (.iload 6, 2) := by decide +kernel
theorem d_jdk_52_m_21_30 : decode jdk_52_method_21_code 30 = .ok (.i2b, 1) := by decide +kernel
theorem d_jdk_52_m_21_31 : decode jdk_52_method_21_code 31 = .ok (.bastore, 1) := by decide +kernel
theorem d_jdk_52_m_21_32 : decode jdk_52_method_21_code 32 = .ok (.iinc 1 1, 3) := by decide +kernel
theorem d_jdk_52_m_21_35 : decode jdk_52_method_21_code 35 = .ok (.iinc 3 1, 3) := by decide +kernel
theorem d_jdk_52_m_21_38 : decode jdk_52_method_21_code 38 = .ok (.iinc 5 1, 3) := by decide +kernel
theorem d_jdk_52_m_21_41 : decode jdk_52_method_21_code 41 = .ok (.goto (-38), 3) := by decide +kernel
theorem d_jdk_52_m_21_44 : decode jdk_52_method_21_code 44 = .ok (.iload 4, 2) := by decide +kernel
theorem d_jdk_52_m_21_46 : decode jdk_52_method_21_code 46 = .ok (.ireturn, 1) := by decide +kernel
theorem d_jdk_52_m_16_0 : decode jdk_52_method_16_code 0 = .ok (.iload_n 2, 1) := by decide +kernel
theorem d_jdk_52_m_16_1 : decode jdk_52_method_16_code 1 = .ok (.newarray .byte, 2) := by decide +kernel
theorem d_jdk_52_m_16_3 : decode jdk_52_method_16_code 3 = .ok (.astore_n 3, 1) := by decide +kernel
theorem d_jdk_52_m_16_4 : decode jdk_52_method_16_code 4 = .ok (.aload_n 0, 1) := by decide +kernel
theorem d_jdk_52_m_16_5 : decode jdk_52_method_16_code 5 = .ok (.iload_n 1, 1) := by decide +kernel
theorem d_jdk_52_m_16_6 : decode jdk_52_method_16_code 6 = .ok (.aload_n 3, 1) := by decide +kernel
theorem d_jdk_52_m_16_7 : decode jdk_52_method_16_code 7 = .ok (.iconst 0, 1) := by decide +kernel
theorem d_jdk_52_m_16_8 : decode jdk_52_method_16_code 8 = .ok (.iload_n 2, 1) := by decide +kernel
theorem d_jdk_52_m_16_9 : decode jdk_52_method_16_code 9 = .ok (.invokestatic 115, 3) := by decide +kernel
theorem d_jdk_52_m_16_12 : decode jdk_52_method_16_code 12 = .ok (.istore 4, 2) := by decide +kernel
theorem d_jdk_52_m_16_14 : decode jdk_52_method_16_code 14 = .ok (.iload 4, 2) := by decide +kernel
theorem d_jdk_52_m_16_16 : decode jdk_52_method_16_code 16 = .ok (.iload_n 2, 1) := by decide +kernel
theorem d_jdk_52_m_16_17 : decode jdk_52_method_16_code 17 = .ok (.if_icmp .eq 40, 3) := by decide +kernel
theorem d_jdk_52_m_16_57 : decode jdk_52_method_16_code 57 = .ok (.aload_n 3, 1) := by decide +kernel
theorem d_jdk_52_m_16_58 : decode jdk_52_method_16_code 58 = .ok (.areturn, 1) := by decide +kernel
theorem d_jdk_52_m_15_0 : decode jdk_52_method_15_code 0 = .ok (.iload_n 1, 1) := by decide +kernel
theorem d_jdk_52_m_15_1 : decode jdk_52_method_15_code 1 = .ok (.aload_n 0, 1) := by decide +kernel
theorem d_jdk_52_m_15_2 : decode jdk_52_method_15_code 2 = .ok (.arraylength, 1) := by decide +kernel
theorem d_jdk_52_m_15_3 : decode jdk_52_method_15_code 3 = .ok (.isub, 1) := by decide +kernel
theorem d_jdk_52_m_15_4 : decode jdk_52_method_15_code 4 = .ok (.bipush 31, 2) := by decide +kernel
theorem d_jdk_52_m_15_6 : decode jdk_52_method_15_code 6 = .ok (.iushr, 1) := by decide +kernel
theorem d_jdk_52_m_15_7 : decode jdk_52_method_15_code 7 = .ok (.i2b, 1) := by decide +kernel
theorem d_jdk_52_m_15_8 : decode jdk_52_method_15_code 8 = .ok (.ireturn, 1) := by decide +kernel
theorem d_jdk_42_m_149_0 : decode jdk_42_method_149_code 0 = .ok (.aload_n 0, 1) := by decide +kernel
theorem d_jdk_42_m_149_1 : decode jdk_42_method_149_code 1 = .ok (.invokespecial 1, 3) := by decide +kernel
theorem d_jdk_42_m_149_4 : decode jdk_42_method_149_code 4 = .ok (.iload_n 3, 1) := by decide +kernel
theorem d_jdk_42_m_149_5 : decode jdk_42_method_149_code 5 = .ok (.ifCond .ne 22, 3) := by decide +kernel
theorem d_jdk_42_m_149_27 : decode jdk_42_method_149_code 27 = .ok (.getstatic 38, 3) := by decide +kernel
theorem d_jdk_42_m_149_30 : decode jdk_42_method_149_code 30 = .ok (.ifCond .eq 28, 3) := by decide +kernel
theorem d_jdk_42_m_149_33 : decode jdk_42_method_149_code 33 = .ok (.aload_n 1, 1) := by decide +kernel
theorem d_jdk_42_m_149_34 : decode jdk_42_method_149_code 34 = .ok (.iload_n 2, 1) := by decide +kernel
theorem d_jdk_42_m_149_35 : decode jdk_42_method_149_code 35 = .ok (.iload_n 3, 1) := by decide +kernel
theorem d_jdk_42_m_149_36 : decode jdk_42_method_149_code 36 = .ok (.invokestatic 177, 3) := by decide +kernel
theorem d_jdk_42_m_149_39 : decode jdk_42_method_149_code 39 = .ok (.astore 5, 2) := by decide +kernel
theorem d_jdk_42_m_149_41 : decode jdk_42_method_149_code 41 = .ok (.aload_n 0, 1) := by decide +kernel
theorem d_jdk_42_m_149_42 : decode jdk_42_method_149_code 42 = .ok (.aload 5, 2) := by decide +kernel
theorem d_jdk_42_m_149_44 : decode jdk_42_method_149_code 44 = .ok (.iload_n 3, 1) := by decide +kernel
theorem d_jdk_42_m_149_45 : decode jdk_42_method_149_code 45 = .ok (.invokestatic 47, 3) := by decide +kernel
theorem d_jdk_42_m_149_48 : decode jdk_42_method_149_code 48 = .ok (.putfield 15, 3) := by decide +kernel
theorem d_jdk_42_m_149_51 : decode jdk_42_method_149_code 51 = .ok (.aload_n 0, 1) := by decide +kernel
theorem d_jdk_42_m_149_52 : decode jdk_42_method_149_code 52 = .ok (.aload 5, 2) := by decide +kernel
theorem d_jdk_42_m_149_54 : decode jdk_42_method_149_code 54 = .ok (.putfield 9, 3) := by decide +kernel
theorem d_jdk_42_m_149_57 : decode jdk_42_method_149_code 57 = .ok (.return_, 1) := by decide +kernel
theorem d_jdk_42_m_3_0 : decode jdk_42_method_3_code 0 = .ok (.aload_n 0, 1) := by decide +kernel
theorem d_jdk_42_m_3_1 : decode jdk_42_method_3_code 1 = .ok (.aload_n 1, 1) := by decide +kernel
theorem d_jdk_42_m_3_2 : decode jdk_42_method_3_code 2 = .ok (.iconst 0, 1) := by decide +kernel
theorem d_jdk_42_m_3_3 : decode jdk_42_method_3_code 3 = .ok (.aload_n 1, 1) := by decide +kernel
theorem d_jdk_42_m_3_4 : decode jdk_42_method_3_code 4 = .ok (.arraylength, 1) := by decide +kernel
theorem d_jdk_42_m_3_5 : decode jdk_42_method_3_code 5 = .ok (.aconst_null, 1) := by decide +kernel
theorem d_jdk_42_m_3_6 : decode jdk_42_method_3_code 6 = .ok (.invokespecial 27, 3) := by decide +kernel
theorem d_jdk_42_m_3_9 : decode jdk_42_method_3_code 9 = .ok (.return_, 1) := by decide +kernel
theorem d_prog_57_m_1_0 : decode prog_57_method_1_code 0 = .ok (.aload_n 0, 1) := by decide +kernel
theorem d_prog_57_m_1_1 : decode prog_57_method_1_code 1 = .ok (.invokespecial 1, 3) := by decide +kernel
theorem d_prog_57_m_1_4 : decode prog_57_method_1_code 4 = .ok (.aload_n 0, 1) := by decide +kernel
theorem d_prog_57_m_1_5 : decode prog_57_method_1_code 5 = .ok (.aload_n 1, 1) := by decide +kernel
theorem d_prog_57_m_1_6 : decode prog_57_method_1_code 6 = .ok (.putfield 7, 3) := by decide +kernel
theorem d_prog_57_m_1_9 : decode prog_57_method_1_code 9 = .ok (.aload_n 0, 1) := by decide +kernel
theorem d_prog_57_m_1_10 : decode prog_57_method_1_code 10 = .ok (.aload_n 2, 1) := by decide +kernel
theorem d_prog_57_m_1_11 : decode prog_57_method_1_code 11 = .ok (.putfield 13, 3) := by decide +kernel
theorem d_prog_57_m_1_14 : decode prog_57_method_1_code 14 = .ok (.return_, 1) := by decide +kernel
theorem d_prog_57_m_3_0 : decode prog_57_method_3_code 0 = .ok (.iconst 0, 1) := by decide +kernel
theorem d_prog_57_m_3_1 : decode prog_57_method_3_code 1 = .ok (.istore_n 2, 1) := by decide +kernel
theorem d_prog_57_m_3_2 : decode prog_57_method_3_code 2 = .ok (.iload_n 2, 1) := by decide +kernel
theorem d_prog_57_m_3_3 : decode prog_57_method_3_code 3 = .ok (.aload_n 0, 1) := by decide +kernel
theorem d_prog_57_m_3_4 : decode prog_57_method_3_code 4 = .ok (.getfield 7, 3) := by decide +kernel
theorem d_prog_57_m_3_7 : decode prog_57_method_3_code 7 = .ok (.arraylength, 1) := by decide +kernel
theorem d_prog_57_m_3_8 : decode prog_57_method_3_code 8 = .ok (.if_icmp .ge 26, 3) := by decide +kernel
theorem d_prog_57_m_3_34 : decode prog_57_method_3_code 34 = .ok (.aconst_null, 1) := by decide +kernel
theorem d_prog_57_m_3_35 : decode prog_57_method_3_code 35 = .ok (.areturn, 1) := by decide +kernel
theorem d_prog_57_m_3_11 : decode prog_57_method_3_code 11 = .ok (.aload_n 0, 1) := by decide +kernel
theorem d_prog_57_m_3_12 : decode prog_57_method_3_code 12 = .ok (.getfield 7, 3) := by decide +kernel
theorem d_prog_57_m_3_15 : decode prog_57_method_3_code 15 = .ok (.iload_n 2, 1) := by decide +kernel
theorem d_prog_57_m_3_16 : decode prog_57_method_3_code 16 = .ok (.iaload, 1) := by decide +kernel
theorem d_prog_57_m_3_17 : decode prog_57_method_3_code 17 = .ok (.iload_n 1, 1) := by decide +kernel
theorem d_prog_57_m_3_18 : decode prog_57_method_3_code 18 = .ok (.if_icmp .ne 10, 3) := by decide +kernel
theorem d_prog_57_m_3_21 : decode prog_57_method_3_code 21 = .ok (.aload_n 0, 1) := by decide +kernel
theorem d_prog_57_m_3_22 : decode prog_57_method_3_code 22 = .ok (.getfield 13, 3) := by decide +kernel
theorem d_prog_57_m_3_25 : decode prog_57_method_3_code 25 = .ok (.iload_n 2, 1) := by decide +kernel
theorem d_prog_57_m_3_26 : decode prog_57_method_3_code 26 = .ok (.aaload, 1) := by decide +kernel
theorem d_prog_57_m_3_27 : decode prog_57_method_3_code 27 = .ok (.areturn, 1) := by decide +kernel
theorem d_prog_57_m_3_28 : decode prog_57_method_3_code 28 = .ok (.iinc 2 1, 3) := by decide +kernel
theorem d_prog_57_m_3_31 : decode prog_57_method_3_code 31 = .ok (.goto (-29), 3) := by decide +kernel
theorem pd_0 : parseMethodDescriptor "([CI[BII)I" = some ⟨[(.array .char), .int, (.array .byte), .int, .int], some .int⟩ := by decide +kernel
theorem pd_1 : parseMethodDescriptor "([CII)[B" = some ⟨[(.array .char), .int, .int], some (.array .byte)⟩ := by decide +kernel
theorem pd_2 : parseMethodDescriptor "([BI)B" = some ⟨[(.array .byte), .int], some .byte⟩ := by decide +kernel
theorem pd_3 : parseMethodDescriptor "([CIILjava/lang/Void;)V" = some ⟨[(.array .char), .int, .int, (.object "java/lang/Void")], none⟩ := by decide +kernel
theorem pd_4 : parseMethodDescriptor "([C)V" = some ⟨[(.array .char)], none⟩ := by decide +kernel
theorem pd_5 : parseMethodDescriptor "([I[Ljava/lang/String;)V" = some ⟨[(.array .int), (.array (.object "java/lang/String"))], none⟩ := by decide +kernel
theorem pd_6 : parseMethodDescriptor "(I)Ljava/lang/String;" = some ⟨[.int], some (.object "java/lang/String")⟩ := by decide +kernel
theorem pn_0 : plainName "java/lang/StringUTF16" = true := by first | (simp [plainName, overriddenIn]; done) | decide +kernel
theorem pn_1 : plainName "java/lang/String" = true := by first | (simp [plainName, overriddenIn]; done) | decide +kernel
theorem pn_2 : plainName "com/example/crosstide/crosstide/fix/FixMessage" = true := by first | (simp [plainName, overriddenIn]; done) | decide +kernel
theorem pn_3 : plainName "com/example/crosstide/crosstide/fix/FixMessageGetPinLaw" = true := by first | (simp [plainName, overriddenIn]; done) | decide +kernel
theorem own_lt32 {x y : Int32} : x < y ↔ x.toInt < y.toInt := Int32.lt_iff_toInt_lt
theorem own_eq32 {x y : Int32} : x = y ↔ x.toInt = y.toInt := Int32.toInt_inj.symm
theorem own_i0 : (0 : Int32).toInt = 0 := rfl
theorem own_i1 : (1 : Int32).toInt = 1 := rfl
theorem own_nat {j z : Int32} (h0 : ¬ j < 0) (h : j < z) : j.toNatClampNeg < z.toNatClampNeg := by
  have a := nat_of h0
  have hz : ¬ z < 0 := by rw [own_lt32] at *; rw [own_i0] at *; omega
  have b := nat_of hz
  rw [own_lt32] at h; omega
theorem own_mx {x v : Int32} (h : (x &&& (2147483647 : Int32)) = v) : ¬ v < (0 : Int32) := by
  have e := c_mask x 2147483647 31 (by decide) (by decide)
  rw [h] at e; rw [own_lt32, own_i0]; omega
theorem own_mx1 {x v : Int32} (h : (x &&& (2147483647 : Int32)) = v) (h0 : ¬ v = 0) : ¬ v < (1 : Int32) := by
  have e := c_mask x 2147483647 31 (by decide) (by decide)
  rw [h] at e; rw [own_eq32, own_i0] at h0; rw [own_lt32, own_i1]; omega
theorem own_rem3 {x v : Int32} (h0 : ¬ x < (0 : Int32)) (h : (x % (3 : Int32)) = v) : v = (0 : Int32) ∨ v = (1 : Int32) ∨ v = (2 : Int32) := by
  have e := (c_irem x 3 3 rfl).1 (by rw [own_lt32, own_i0] at h0; omega)
  rw [h] at e
  have : v.toInt = 0 ∨ v.toInt = 1 ∨ v.toInt = 2 := by omega
  rcases this with q | q | q
  · left; exact Int32.toInt_inj.mp q
  · right; left; exact Int32.toInt_inj.mp q
  · right; right; exact Int32.toInt_inj.mp q
theorem own_ushr0 (x q : Int32) (k : Nat) (hk : q.toBitVec.toNat % 32 = k) (hk0 : 0 < k) : ¬ ((x.toUInt32 >>> (q &&& 31).toUInt32).toInt32) < (0 : Int32) := by
  have e := c_iushr x q k hk hk0
  rw [own_lt32, e, own_i0]
  have : 0 ≤ (x.toInt % 4294967296) / ((2 ^ k : Nat) : Int) := Int.ediv_nonneg (Int.emod_nonneg _ (by decide)) (Int.natCast_nonneg _)
  omega
theorem own_m3 {x v : Int32} (h : (x &&& (3 : Int32)) = v) : v = (0 : Int32) ∨ v = (1 : Int32) ∨ v = (2 : Int32) ∨ v = (3 : Int32) := by
  have e := c_mask x 3 2 (by decide) (by decide)
  rw [h] at e
  have : v.toInt = 0 ∨ v.toInt = 1 ∨ v.toInt = 2 ∨ v.toInt = 3 := by omega
  rcases this with q | q | q | q
  · left; exact Int32.toInt_inj.mp q
  · right; left; exact Int32.toInt_inj.mp q
  · right; right; left; exact Int32.toInt_inj.mp q
  · right; right; right; exact Int32.toInt_inj.mp q
theorem own_c255 (x : Int32) : ¬ (255 : Int32) < (x &&& (255 : Int32)) := by
  have e := c_mask x 255 8 (by decide) (by decide)
  have t : (255 : Int32).toInt = 255 := rfl
  rw [own_lt32, e, t]; omega

def Q_cmp5_1 (Z : State) (x : Addr) (kc : ClassId) (d : Addr) (kd : ClassId) (c0 : Int32) (h0 : Heap) (n0 : Nat) (v : Option Value) (h : Heap) (L : List Loc) : Prop := v = some (.int (1 : Int32)) ∧ Fr n0 L ∧ Keep h0 h [d] ∧ Arv Z h d kd .byte (1 : Int32) [(.int (c0.toInt8.toInt32))] (.int (0 : Int32))
theorem ef_cmp5_1 (m : MethodId) (x0 : Addr) (x1 : Int32) (x2 : Addr) (x3 : Int32) (x4 : Int32) : entryFrame m #[(.ref x0), (.int x1), (.ref x2), (.int x3), (.int x4)] 7 = mkF m 0 #[.val (.ref x0), .val (.int x1), .val (.ref x2), .val (.int x3), .val (.int x4), .unset, .unset] [] := by first | (simp [entryFrame, mkF, argsToLocals, Value.category]; done) | rfl
set_option maxRecDepth 65536 in
set_option maxHeartbeats 40000000 in
theorem rm_cmp5_1 (l : Launch) (Z : State) (a0 : Array Value) (hw : ∀ d ∈ tables_1, d.before a0 Z = true) (x : Addr) (kc : ClassId) (d : Addr) (kd : ClassId) (c0 : Int32) (h0 : Heap) (n0 : Nat) (Z0 : n0 ≤ h0.size) (V_x : Arv Z h0 x kc .char (1 : Int32) [(.int c0)] (.int (0 : Int32))) (V_d : Arv Z h0 d kd .byte (1 : Int32) [(.int (0 : Int32))] (.int (0 : Int32))) (g_d : n0 ≤ d) (ne_x_d : x ≠ d) (hq0 : ¬ (255 : Int32) < c0) :
    Ct l Z (⟨"java/lang/StringUTF16", "compress", "([CI[BII)I"⟩ : MethodName) jdk_52_method_21_code 7 (some .int) [] ({ frames := 0, cells := 0, slots := 0, locals := 0 } : Room) #[(.ref x), (.int (0 : Int32)), (.ref d), (.int (0 : Int32)), (.int (1 : Int32))] h0 (Q_cmp5_1 Z x kc d kd c0 h0 n0) := by
  refine own_body (plainFor_of_name pn_0) (fun m => ef_cmp5_1 m x (0 : Int32) d (0 : Int32) (1 : Int32)) ?_
  intro p e s m below meth c T0 hx hby hml hZ hown hnm hret hlk X0 e0
  have N0 := Fr.nil n0
  refine g_iconst X0 hx (r := (0 : Int32)) (hb hby d_jdk_52_m_21_0) rfl rfl ?_
  refine g_istore X0 hx (Ls' := #[.val (.ref x), .val (.int (0 : Int32)), .val (.ref d), .val (.int (0 : Int32)), .val (.int (1 : Int32)), .val (.int (0 : Int32)), .unset]) (hb hby d_jdk_52_m_21_1) rfl rfl ?_
  refine g_iload X0 hx (hb hby d_jdk_52_m_21_3) rfl rfl ?_
  refine g_iload X0 hx (hb hby d_jdk_52_m_21_5) rfl rfl ?_
  refine g_icmpN X0 hx (hb hby d_jdk_52_m_21_7) rfl (XT.ii_ge_f (by decide : (0 : Int32) < (1 : Int32))) ?_
  refine g_aloadN X0 hx (hb hby d_jdk_52_m_21_10) rfl rfl rfl ?_
  refine g_iloadN X0 hx (hb hby d_jdk_52_m_21_11) rfl rfl ?_
  refine g_caload X0 hx hZ e0 V_x (v := (.int c0)) ⟨by decide, by decide⟩ rfl (hb hby d_jdk_52_m_21_12) rfl ?_
  refine g_istore X0 hx (Ls' := #[.val (.ref x), .val (.int (0 : Int32)), .val (.ref d), .val (.int (0 : Int32)), .val (.int (1 : Int32)), .val (.int (0 : Int32)), .val (.int c0)]) (hb hby d_jdk_52_m_21_13) rfl rfl ?_
  refine g_iload X0 hx (hb hby d_jdk_52_m_21_15) rfl rfl ?_
  refine g_sipush X0 hx (r := (255 : Int32)) (hb hby d_jdk_52_m_21_17) rfl rfl ?_
  have hc20 : ¬ (255 : Int32) < c0 := hq0
  refine g_icmpY X0 hx (q := 26) (hb hby d_jdk_52_m_21_20) (XT.ii_le_t hc20) (by decide) (by decide) ?_
  refine g_aloadN X0 hx (hb hby d_jdk_52_m_21_26) rfl rfl rfl ?_
  refine g_iloadN X0 hx (hb hby d_jdk_52_m_21_27) rfl rfl ?_
  refine g_iload X0 hx (hb hby d_jdk_52_m_21_28) rfl rfl ?_
  refine g_i2b X0 hx (hb hby d_jdk_52_m_21_30) rfl rfl ?_
  refine g_bastore X0 hx hZ e0 V_d ⟨by decide, by decide⟩ (Nat.le_of_ble_eq_true rfl) (hb hby d_jdk_52_m_21_31) rfl fun T1 h1 X1 e1 W1 V1 => ?_
  rw [own_nar, own_bb] at V1
  have Vn1 : Arv Z h1 d kd .byte (1 : Int32) [(.int (c0.toInt8.toInt32))] (.int (0 : Int32)) := V1
  have kk1 : Keep h0 h1 [d] := (Keep.refl h0 [d]).wr W1 (Or.inl (by simp))
  have N1 := Fr.snoc X1 N0 g_d
  have Z1 : n0 ≤ h1.size := by rw [W1.size]; exact Z0
  refine g_iinc X1 hx (r := (1 : Int32)) (Ls' := #[.val (.ref x), .val (.int (1 : Int32)), .val (.ref d), .val (.int (0 : Int32)), .val (.int (1 : Int32)), .val (.int (0 : Int32)), .val (.int c0)]) (hb hby d_jdk_52_m_21_32) rfl rfl rfl rfl ?_
  refine g_iinc X1 hx (r := (1 : Int32)) (Ls' := #[.val (.ref x), .val (.int (1 : Int32)), .val (.ref d), .val (.int (1 : Int32)), .val (.int (1 : Int32)), .val (.int (0 : Int32)), .val (.int c0)]) (hb hby d_jdk_52_m_21_35) rfl rfl rfl rfl ?_
  refine g_iinc X1 hx (r := (1 : Int32)) (Ls' := #[.val (.ref x), .val (.int (1 : Int32)), .val (.ref d), .val (.int (1 : Int32)), .val (.int (1 : Int32)), .val (.int (1 : Int32)), .val (.int c0)]) (hb hby d_jdk_52_m_21_38) rfl rfl rfl rfl ?_
  refine g_goto X1 hx (q := 3) (hb hby d_jdk_52_m_21_41) (by decide) (by decide) ?_
  refine g_iload X1 hx (hb hby d_jdk_52_m_21_3) rfl rfl ?_
  refine g_iload X1 hx (hb hby d_jdk_52_m_21_5) rfl rfl ?_
  refine g_icmpY X1 hx (q := 44) (hb hby d_jdk_52_m_21_7) (XT.ii_ge_t (by decide : ¬ (1 : Int32) < (1 : Int32))) (by decide) (by decide) ?_
  refine g_iload X1 hx (hb hby d_jdk_52_m_21_44) rfl rfl ?_
  exact g_retI X1 hx hret hlk (hb hby d_jdk_52_m_21_46) (by decide) (by decide) (by rw [e1]; exact ⟨rfl, N1, kk1, Vn1⟩)
def Q_cmp3_1 (Z : State) (x : Addr) (kc : ClassId) (c0 : Int32) (h0 : Heap) (n0 : Nat) (v : Option Value) (h : Heap) (L : List Loc) : Prop := ∃ (d : Addr) (kd : ClassId), v = some (.ref d) ∧ Fr n0 L ∧ Keep h0 h [] ∧ h0.size ≤ d ∧ Arv Z h d kd .byte (1 : Int32) [(.int (c0.toInt8.toInt32))] (.int (0 : Int32))
theorem ef_cmp3_1 (m : MethodId) (x0 : Addr) (x1 : Int32) (x2 : Int32) : entryFrame m #[(.ref x0), (.int x1), (.int x2)] 6 = mkF m 0 #[.val (.ref x0), .val (.int x1), .val (.int x2), .unset, .unset, .unset] [] := by first | (simp [entryFrame, mkF, argsToLocals, Value.category]; done) | rfl
set_option maxRecDepth 65536 in
set_option maxHeartbeats 40000000 in
theorem rm_cmp3_1 (l : Launch) (Z : State) (a0 : Array Value) (hw : ∀ d ∈ tables_1, d.before a0 Z = true) (x : Addr) (kc : ClassId) (c0 : Int32) (h0 : Heap) (n0 : Nat) (Z0 : n0 ≤ h0.size) (V_x : Arv Z h0 x kc .char (1 : Int32) [(.int c0)] (.int (0 : Int32))) (hq0 : ¬ (255 : Int32) < c0) :
    Ct l Z (⟨"java/lang/StringUTF16", "compress", "([CII)[B"⟩ : MethodName) jdk_52_method_16_code 6 (some (.array .byte)) [] ({ frames := 1, cells := 1, slots := 1, locals := 18 } : Room) #[(.ref x), (.int (0 : Int32)), (.int (1 : Int32))] h0 (Q_cmp3_1 Z x kc c0 h0 n0) := by
  refine own_body (plainFor_of_name pn_0) (fun m => ef_cmp3_1 m x (0 : Int32) (1 : Int32)) ?_
  intro p e s m below meth c T0 hx hby hml hZ hown hnm hret hlk X0 e0
  have N0 := Fr.nil n0
  refine g_iloadN X0 hx (hb hby d_jdk_52_m_16_0) rfl rfl ?_
  refine g_newarray X0 hx hZ (aty := .byte) (hw _ (List.mem_of_getElem? (i := 19) rfl)) e0 (by decide) 1 (by decide) (by decide) (by decide) (by decide) (ad := "[B") (by decide) (hb hby d_jdk_52_m_16_1) rfl fun T1 h1 b1 ka1 X1 e1 q1 E1 A1 V1 => ?_
  have ne_x_b1 : x ≠ b1 := own_ne V_x.lt q1
  have g_b1 : n0 ≤ b1 := Nat.le_trans Z0 (Nat.le_of_eq q1.symm)
  have sz_b1 : h0.size ≤ b1 := Nat.le_trans (Keep.refl h0 []).1 (Nat.le_of_eq q1.symm)
  have Z1 : n0 ≤ h1.size := Nat.le_trans Z0 E1.1
  have kk1 : Keep h0 h1 [] := (Keep.refl h0 []).ext E1
  have Vn1 : Arv Z h1 b1 ka1 .byte (1 : Int32) [(.int (0 : Int32))] (.int (0 : Int32)) := V1
  refine g_astoreN X1 hx (Ls' := #[.val (.ref x), .val (.int (0 : Int32)), .val (.int (1 : Int32)), .val (.ref b1), .unset, .unset]) (hb hby d_jdk_52_m_16_3) rfl rfl rfl ?_
  refine g_aloadN X1 hx (hb hby d_jdk_52_m_16_4) rfl rfl rfl ?_
  refine g_iloadN X1 hx (hb hby d_jdk_52_m_16_5) rfl rfl ?_
  refine g_aloadN X1 hx (hb hby d_jdk_52_m_16_6) rfl rfl rfl ?_
  refine g_iconst X1 hx (r := (0 : Int32)) (hb hby d_jdk_52_m_16_7) rfl rfl ?_
  refine g_iloadN X1 hx (hb hby d_jdk_52_m_16_8) rfl rfl ?_
  have f3 : Arv Z h1 x kc .char (1 : Int32) [(.int c0)] (.int (0 : Int32)) := (V_x.ext E1)
  refine g_static X1 hx hZ hown (hw _ (List.mem_of_getElem? (i := 20) rfl)) (hw _ (List.mem_of_getElem? (i := 21) rfl)) (hw _ (List.mem_of_getElem? (i := 17) rfl)) (hw _ (List.mem_of_getElem? (i := 22) rfl)) (by decide) (rm_cmp5_1 l Z a0 hw x kc b1 ka1 c0 h1 n0 Z1 f3 Vn1 g_b1 ne_x_b1 hq0) (by rw [hml]; rfl) e1 [(.ref x), (.int (0 : Int32)), (.ref b1), (.int (0 : Int32)), (.int (1 : Int32))] rfl rfl (W := 0) (Nat.le_of_eq rfl) (by decide) (by decide) (by decide) (by decide) (lenOf pd_0 rfl) (hb hby d_jdk_52_m_16_9) rfl fun v2 T2 L2 X2 hQ2 => ?_
  obtain ⟨rfl, Nq2, kc2, p2_0⟩ := hQ2
  have N2 := Fr.app N0 Nq2
  have kk2 : Keep h0 T2.heap [] := kk1.trans kc2 (allS (Or.inr sz_b1) all0)
  have Z2 : n0 ≤ T2.heap.size := Nat.le_trans Z1 kc2.1
  have pv2_0 : Arv Z T2.heap b1 ka1 .byte (1 : Int32) [(.int (c0.toInt8.toInt32))] (.int (0 : Int32)) := p2_0
  show Ga _ _ _ _ _ _ _ _ _ _ _ [(.int (1 : Int32))]
  refine g_istore X2 hx (Ls' := #[.val (.ref x), .val (.int (0 : Int32)), .val (.int (1 : Int32)), .val (.ref b1), .val (.int (1 : Int32)), .unset]) (hb hby d_jdk_52_m_16_12) rfl rfl ?_
  refine g_iload X2 hx (hb hby d_jdk_52_m_16_14) rfl rfl ?_
  refine g_iloadN X2 hx (hb hby d_jdk_52_m_16_16) rfl rfl ?_
  refine g_icmpY X2 hx (q := 57) (hb hby d_jdk_52_m_16_17) (XT.ii_eq_t (by decide : (1 : Int32) = (1 : Int32))) (by decide) (by decide) ?_
  refine g_aloadN X2 hx (hb hby d_jdk_52_m_16_57) rfl rfl rfl ?_
  exact g_retR X2 hx hret hlk rfl rfl rfl (hb hby d_jdk_52_m_16_58) (by decide) (by decide) ⟨b1, ka1, rfl, N2, kk2, sz_b1, pv2_0⟩
def Q_cfal_1 (Z : State) (d : Addr) (kd : ClassId) (vs : List Value) (h0 : Heap) (n0 : Nat) (v : Option Value) (h : Heap) (L : List Loc) : Prop := v = some (.int (0 : Int32)) ∧ Fr n0 L ∧ h = h0
theorem ef_cfal_1 (m : MethodId) (x0 : Addr) (x1 : Int32) : entryFrame m #[(.ref x0), (.int x1)] 2 = mkF m 0 #[.val (.ref x0), .val (.int x1)] [] := by first | (simp [entryFrame, mkF, argsToLocals, Value.category]; done) | rfl
set_option maxRecDepth 65536 in
set_option maxHeartbeats 40000000 in
theorem rm_cfal_1 (l : Launch) (Z : State) (a0 : Array Value) (hw : ∀ d ∈ tables_1, d.before a0 Z = true) (d : Addr) (kd : ClassId) (vs : List Value) (h0 : Heap) (n0 : Nat) (Z0 : n0 ≤ h0.size) (V_d : Arv Z h0 d kd .byte (1 : Int32) vs (.int (0 : Int32))) :
    Ct l Z (⟨"java/lang/StringUTF16", "coderFromArrayLen", "([BI)B"⟩ : MethodName) jdk_52_method_15_code 2 (some .byte) [] ({ frames := 0, cells := 0, slots := 0, locals := 0 } : Room) #[(.ref d), (.int (1 : Int32))] h0 (Q_cfal_1 Z d kd vs h0 n0) := by
  refine own_body (plainFor_of_name pn_0) (fun m => ef_cfal_1 m d (1 : Int32)) ?_
  intro p e s m below meth c T0 hx hby hml hZ hown hnm hret hlk X0 e0
  have N0 := Fr.nil n0
  refine g_iloadN X0 hx (hb hby d_jdk_52_m_15_0) rfl rfl ?_
  refine g_aloadN X0 hx (hb hby d_jdk_52_m_15_1) rfl rfl rfl ?_
  refine g_len X0 hx hZ e0 V_d (hb hby d_jdk_52_m_15_2) rfl ?_
  refine g_isub X0 hx (r := (0 : Int32)) (hb hby d_jdk_52_m_15_3) rfl rfl ?_
  refine g_bipush X0 hx (r := (31 : Int32)) (hb hby d_jdk_52_m_15_4) rfl rfl ?_
  refine g_iushr X0 hx (r := (0 : Int32)) (hb hby d_jdk_52_m_15_6) rfl rfl ?_
  refine g_i2b X0 hx (r := (0 : Int32)) (hb hby d_jdk_52_m_15_7) rfl rfl ?_
  exact g_retN X0 hx (t := .byte) (r := (0 : Int32)) hret (by simp) hlk (hb hby d_jdk_52_m_15_8) rfl (by decide) (by decide) (by rw [e0]; exact ⟨rfl, N0, rfl⟩)
def Q_sini4_1 (Z : State) (a : Addr) (x : Addr) (kc : ClassId) (cs : Int32) (c0 : Int32) (h0 : Heap) (n0 : Nat) (v : Option Value) (h : Heap) (L : List Loc) : Prop := ∃ (d : Addr) (kd : ClassId), v = none ∧ Fr n0 L ∧ Keep h0 h [a] ∧ h0.size ≤ d ∧ Exa Z h a "java/lang/String" ∧ Fld Z h a "java/lang/String" "value" "[B" (.ref d) ∧ Fld Z h a "java/lang/String" "coder" "B" (.int (0 : Int32)) ∧ Arv Z h d kd .byte (1 : Int32) [(.int (c0.toInt8.toInt32))] (.int (0 : Int32))
theorem ef_sini4_1 (m : MethodId) (x0 : Addr) (x1 : Addr) (x2 : Int32) (x3 : Int32) : entryFrame m #[(.ref x0), (.ref x1), (.int x2), (.int x3), .null] 6 = mkF m 0 #[.val (.ref x0), .val (.ref x1), .val (.int x2), .val (.int x3), .val .null, .unset] [] := by first | (simp [entryFrame, mkF, argsToLocals, Value.category]; done) | rfl
set_option maxRecDepth 65536 in
set_option maxHeartbeats 40000000 in
theorem rm_sini4_1 (l : Launch) (Z : State) (a0 : Array Value) (hw : ∀ d ∈ tables_1, d.before a0 Z = true) (a : Addr) (x : Addr) (kc : ClassId) (cs : Int32) (c0 : Int32) (h0 : Heap) (n0 : Nat) (Z0 : n0 ≤ h0.size) (F_value_a : Fld Z h0 a "java/lang/String" "value" "[B" .null) (F_coder_a : Fld Z h0 a "java/lang/String" "coder" "B" (.int (0 : Int32))) (E_a : Exa Z h0 a "java/lang/String") (g_a : n0 ≤ a) (old0 : Old Z n0 h0) (S0_COMPACT_STRINGS : Sta Z Z.heap "java/lang/String" "COMPACT_STRINGS" "Z" (.int cs)) (hcs : ¬ cs = (0 : Int32)) (V_x : Arv Z h0 x kc .char (1 : Int32) [(.int c0)] (.int (0 : Int32))) (hq0 : ¬ (255 : Int32) < c0) :
    Ct l Z (⟨"java/lang/String", "<init>", "([CIILjava/lang/Void;)V"⟩ : MethodName) jdk_42_method_149_code 6 none [] ({ frames := 2, cells := 1, slots := 1, locals := 35 } : Room) #[(.ref a), (.ref x), (.int (0 : Int32)), (.int (1 : Int32)), .null] h0 (Q_sini4_1 Z a x kc cs c0 h0 n0) := by
  refine own_body (plainFor_of_name pn_1) (fun m => ef_sini4_1 m a x (0 : Int32) (1 : Int32)) ?_
  intro p e s m below meth c T0 hx hby hml hZ hown hnm hret hlk X0 e0
  have N0 := Fr.nil n0
  refine g_aloadN X0 hx (hb hby d_jdk_42_m_149_0) rfl rfl rfl ?_
  refine g_initO X0 hx hZ hown (hw _ (List.mem_of_getElem? (i := 11) rfl)) (hw _ (List.mem_of_getElem? (i := 12) rfl)) (hw _ (List.mem_of_getElem? (i := 13) rfl)) e0 (by rw [hml]; rfl) (hb hby d_jdk_42_m_149_1) rfl (by decide) (W := 0) (Nat.le_of_eq rfl) (by decide) fun T1 X1 e1 => ?_
  refine g_iloadN X1 hx (hb hby d_jdk_42_m_149_4) rfl rfl ?_
  refine g_ifY X1 hx (q := 27) (hb hby d_jdk_42_m_149_5) (XT.i0_ne_t (by decide : ¬ (1 : Int32) = (0 : Int32))) (by decide) (by decide) ?_
  refine g_getS X1 hx hZ hown (host := "") (Or.inl (hw _ (List.mem_of_getElem? (i := 14) rfl))) Via.refl e1 (Sta.ext old0.2 S0_COMPACT_STRINGS) (hb hby d_jdk_42_m_149_27) rfl fun T2 X2 e2 => ?_
  have hc30 : ¬ cs = (0 : Int32) := hcs
  refine g_ifN X2 hx (hb hby d_jdk_42_m_149_30) rfl (XT.i0_eq_f hc30) ?_
  refine g_aloadN X2 hx (hb hby d_jdk_42_m_149_33) rfl rfl rfl ?_
  refine g_iloadN X2 hx (hb hby d_jdk_42_m_149_34) rfl rfl ?_
  refine g_iloadN X2 hx (hb hby d_jdk_42_m_149_35) rfl rfl ?_
  refine g_static X2 hx hZ hown (hw _ (List.mem_of_getElem? (i := 15) rfl)) (hw _ (List.mem_of_getElem? (i := 16) rfl)) (hw _ (List.mem_of_getElem? (i := 17) rfl)) (hw _ (List.mem_of_getElem? (i := 18) rfl)) (by decide) (rm_cmp3_1 l Z a0 hw x kc c0 h0 n0 Z0 V_x hq0) (by rw [hml]; rfl) e2 [(.ref x), (.int (0 : Int32)), (.int (1 : Int32))] rfl rfl (W := 0) (Nat.le_of_eq rfl) (by decide) (by decide) (by decide) (by decide) (lenOf pd_1 rfl) (hb hby d_jdk_42_m_149_36) rfl fun v3 T3 L3 X3 hQ3 => ?_
  obtain ⟨d_3, kd_3, rfl, Nq3, kc3, p3_0, p3_1⟩ := hQ3
  have N3 := Fr.app N0 Nq3
  have ne_a_d_3 : a ≠ d_3 := own_neK F_value_a.lt p3_0
  have ne_x_d_3 : x ≠ d_3 := own_neK V_x.lt p3_0
  have g_d_3 : n0 ≤ d_3 := Nat.le_trans Z0 p3_0
  have sz_d_3 : h0.size ≤ d_3 := Nat.le_trans (Keep.refl h0 [a]).1 p3_0
  have kk3 : Keep h0 T3.heap [a] := (Keep.refl h0 [a]).trans kc3 all0
  have Z3 : n0 ≤ T3.heap.size := Nat.le_trans Z0 kc3.1
  have pv3_1 : Arv Z T3.heap d_3 kd_3 .byte (1 : Int32) [(.int (c0.toInt8.toInt32))] (.int (0 : Int32)) := p3_1
  show Ga _ _ _ _ _ _ _ _ _ _ _ [(.ref d_3)]
  refine g_astore X3 hx (Ls' := #[.val (.ref a), .val (.ref x), .val (.int (0 : Int32)), .val (.int (1 : Int32)), .val .null, .val (.ref d_3)]) (hb hby d_jdk_42_m_149_39) rfl rfl rfl ?_
  refine g_aloadN X3 hx (hb hby d_jdk_42_m_149_41) rfl rfl rfl ?_
  refine g_aload X3 hx (hb hby d_jdk_42_m_149_42) rfl rfl rfl ?_
  refine g_iloadN X3 hx (hb hby d_jdk_42_m_149_44) rfl rfl ?_
  refine g_static X3 hx hZ hown (hw _ (List.mem_of_getElem? (i := 23) rfl)) (hw _ (List.mem_of_getElem? (i := 24) rfl)) (hw _ (List.mem_of_getElem? (i := 17) rfl)) (hw _ (List.mem_of_getElem? (i := 25) rfl)) (by decide) (rm_cfal_1 l Z a0 hw d_3 kd_3 [(.int (c0.toInt8.toInt32))] T3.heap n0 Z3 pv3_1) (by rw [hml]; rfl) rfl [(.ref d_3), (.int (1 : Int32))] rfl rfl (W := 1) (Nat.le_of_eq rfl) (by decide) (by decide) (by decide) (by decide) (lenOf pd_2 rfl) (hb hby d_jdk_42_m_149_45) rfl fun v4 T4 L4 X4 hQ4 => ?_
  obtain ⟨rfl, Nq4, eh4⟩ := hQ4
  have N4 := Fr.app N3 Nq4
  show Ga _ _ _ _ _ _ _ _ _ _ _ [(.int (0 : Int32)), (.ref a)]
  have f6 : Fld Z T3.heap a "java/lang/String" "coder" "B" (.int (0 : Int32)) := (F_coder_a.keep kc3 nin0)
  have f7 : Exa Z T3.heap a "java/lang/String" := (E_a.keep kc3)
  refine g_putF X4 hx hZ hown (host := "") (Or.inl (hw _ (List.mem_of_getElem? (i := 26) rfl))) Via.refl eh4 f6 f7 (Or.inr ⟨(hw _ (List.mem_of_getElem? (i := 27) rfl)), rfl, hnm⟩) (hw _ (List.mem_of_getElem? (i := 1) rfl)) (ty := .byte) (by decide) rfl rfl (hb hby d_jdk_42_m_149_48) rfl fun T5 h5 X5 e5 W5 F5 => ?_
  have kk5 : Keep h0 h5 [a] := kk3.wr W5 (Or.inl (by simp))
  have N5 := Fr.snoc X5 N4 g_a
  have Z5 : n0 ≤ h5.size := by rw [W5.size]; exact Z3
  refine g_aloadN X5 hx (hb hby d_jdk_42_m_149_51) rfl rfl rfl ?_
  refine g_aload X5 hx (hb hby d_jdk_42_m_149_52) rfl rfl rfl ?_
  have f9 : Fld Z h5 a "java/lang/String" "value" "[B" .null := ((F_value_a.keep kc3 nin0).other W5 (Or.inr (slot_ne (Or.inr (hw _ (List.mem_of_getElem? (i := 29) rfl))) (Or.inr (hw _ (List.mem_of_getElem? (i := 27) rfl))) (by decide) (t := (.array .byte)) (t' := .byte) (by decide) (by decide))))
  have f10 : Exa Z h5 a "java/lang/String" := (f7.wr W5)
  refine g_putF X5 hx hZ hown (host := "") (Or.inl (hw _ (List.mem_of_getElem? (i := 28) rfl))) Via.refl e5 f9 f10 (Or.inr ⟨(hw _ (List.mem_of_getElem? (i := 29) rfl)), rfl, hnm⟩) (hw _ (List.mem_of_getElem? (i := 1) rfl)) (ty := (.array .byte)) (by decide) rfl rfl (hb hby d_jdk_42_m_149_54) rfl fun T8 h8 X8 e8 W8 F8 => ?_
  have kk8 : Keep h0 h8 [a] := kk5.wr W8 (Or.inl (by simp))
  have N8 := Fr.snoc X8 N5 g_a
  have Z8 : n0 ≤ h8.size := by rw [W8.size]; exact Z5
  have f11 : Exa Z h8 a "java/lang/String" := (f10.wr W8)
  have f12 : Fld Z h8 a "java/lang/String" "coder" "B" (.int (0 : Int32)) := (F5.other W8 (Or.inr (slot_ne (Or.inr (hw _ (List.mem_of_getElem? (i := 27) rfl))) (Or.inr (hw _ (List.mem_of_getElem? (i := 29) rfl))) (by decide) (t := .byte) (t' := (.array .byte)) (by decide) (by decide))))
  have f13 : Arv Z h8 d_3 kd_3 .byte (1 : Int32) [(.int (c0.toInt8.toInt32))] (.int (0 : Int32)) := ((pv3_1.other W5 (Ne.symm ne_a_d_3)).other W8 (Ne.symm ne_a_d_3))
  exact g_ret X8 hx hret hlk (hb hby d_jdk_42_m_149_57) (by decide) (by decide) (by rw [e8]; exact ⟨d_3, kd_3, rfl, N8, kk8, sz_d_3, f11, F8, f12, f13⟩)
def Q_sini_1 (Z : State) (a : Addr) (x : Addr) (kc : ClassId) (cs : Int32) (c0 : Int32) (h0 : Heap) (n0 : Nat) (v : Option Value) (h : Heap) (L : List Loc) : Prop := ∃ (d : Addr) (kd : ClassId), v = none ∧ Fr n0 L ∧ Keep h0 h [a] ∧ h0.size ≤ d ∧ Exa Z h a "java/lang/String" ∧ Fld Z h a "java/lang/String" "value" "[B" (.ref d) ∧ Fld Z h a "java/lang/String" "coder" "B" (.int (0 : Int32)) ∧ Arv Z h d kd .byte (1 : Int32) [(.int (c0.toInt8.toInt32))] (.int (0 : Int32))
theorem ef_sini_1 (m : MethodId) (x0 : Addr) (x1 : Addr) : entryFrame m #[(.ref x0), (.ref x1)] 2 = mkF m 0 #[.val (.ref x0), .val (.ref x1)] [] := by first | (simp [entryFrame, mkF, argsToLocals, Value.category]; done) | rfl
set_option maxRecDepth 65536 in
set_option maxHeartbeats 40000000 in
theorem rm_sini_1 (l : Launch) (Z : State) (a0 : Array Value) (hw : ∀ d ∈ tables_1, d.before a0 Z = true) (a : Addr) (x : Addr) (kc : ClassId) (cs : Int32) (c0 : Int32) (h0 : Heap) (n0 : Nat) (Z0 : n0 ≤ h0.size) (F_value_a : Fld Z h0 a "java/lang/String" "value" "[B" .null) (F_coder_a : Fld Z h0 a "java/lang/String" "coder" "B" (.int (0 : Int32))) (E_a : Exa Z h0 a "java/lang/String") (g_a : n0 ≤ a) (old0 : Old Z n0 h0) (S0_COMPACT_STRINGS : Sta Z Z.heap "java/lang/String" "COMPACT_STRINGS" "Z" (.int cs)) (hcs : ¬ cs = (0 : Int32)) (V_x : Arv Z h0 x kc .char (1 : Int32) [(.int c0)] (.int (0 : Int32))) (hq0 : ¬ (255 : Int32) < c0) :
    Ct l Z (⟨"java/lang/String", "<init>", "([C)V"⟩ : MethodName) jdk_42_method_3_code 2 none [] ({ frames := 3, cells := 1, slots := 1, locals := 52 } : Room) #[(.ref a), (.ref x)] h0 (Q_sini_1 Z a x kc cs c0 h0 n0) := by
  refine own_body (plainFor_of_name pn_1) (fun m => ef_sini_1 m a x) ?_
  intro p e s m below meth c T0 hx hby hml hZ hown hnm hret hlk X0 e0
  have N0 := Fr.nil n0
  refine g_aloadN X0 hx (hb hby d_jdk_42_m_3_0) rfl rfl rfl ?_
  refine g_aloadN X0 hx (hb hby d_jdk_42_m_3_1) rfl rfl rfl ?_
  refine g_iconst X0 hx (r := (0 : Int32)) (hb hby d_jdk_42_m_3_2) rfl rfl ?_
  refine g_aloadN X0 hx (hb hby d_jdk_42_m_3_3) rfl rfl rfl ?_
  refine g_len X0 hx hZ e0 V_x (hb hby d_jdk_42_m_3_4) rfl ?_
  refine g_aconst_null X0 hx (hb hby d_jdk_42_m_3_5) rfl  ?_
  refine g_special X0 hx hZ hown rfl (hw _ (List.mem_of_getElem? (i := 7) rfl)) (hw _ (List.mem_of_getElem? (i := 8) rfl)) (hw _ (List.mem_of_getElem? (i := 2) rfl)) (hw _ (List.mem_of_getElem? (i := 10) rfl)) (by decide) (a := a) (rm_sini4_1 l Z a0 hw a x kc cs c0 h0 n0 Z0 F_value_a F_coder_a E_a g_a old0 S0_COMPACT_STRINGS hcs V_x hq0) (by rw [hml]; rfl) e0 [(.ref x), (.int (0 : Int32)), (.int (1 : Int32)), .null] rfl rfl (W := 0) (Nat.le_of_eq rfl) (by decide) (by decide) (by decide) (by decide) (lenOf pd_3 rfl) (hb hby d_jdk_42_m_3_6) rfl fun v1 T1 L1 X1 hQ1 => ?_
  obtain ⟨d_1, kd_1, rfl, Nq1, kc1, p1_0, p1_1, p1_2, p1_3, p1_4⟩ := hQ1
  have N1 := Fr.app N0 Nq1
  have ne_a_d_1 : a ≠ d_1 := own_neK F_value_a.lt p1_0
  have ne_x_d_1 : x ≠ d_1 := own_neK V_x.lt p1_0
  have g_d_1 : n0 ≤ d_1 := Nat.le_trans Z0 p1_0
  have sz_d_1 : h0.size ≤ d_1 := Nat.le_trans (Keep.refl h0 [a]).1 p1_0
  have kk1 : Keep h0 T1.heap [a] := (Keep.refl h0 [a]).trans kc1 (allS (Or.inl (by simp)) all0)
  have Z1 : n0 ≤ T1.heap.size := Nat.le_trans Z0 kc1.1
  have pv1_4 : Arv Z T1.heap d_1 kd_1 .byte (1 : Int32) [(.int (c0.toInt8.toInt32))] (.int (0 : Int32)) := p1_4
  show Ga _ _ _ _ _ _ _ _ _ _ _ []
  exact g_ret X1 hx hret hlk (hb hby d_jdk_42_m_3_9) (by decide) (by decide) ⟨d_1, kd_1, rfl, N1, kk1, sz_d_1, p1_1, p1_2, p1_3, pv1_4⟩
def Q_fini (Z : State) (a : Addr) (x : Addr) (y : Addr) (h0 : Heap) (n0 : Nat) (v : Option Value) (h : Heap) (L : List Loc) : Prop := v = none ∧ Fr n0 L ∧ Keep h0 h [a] ∧ Exa Z h a "com/example/crosstide/crosstide/fix/FixMessage" ∧ Fld Z h a "com/example/crosstide/crosstide/fix/FixMessage" "tags" "[I" (.ref x) ∧ Fld Z h a "com/example/crosstide/crosstide/fix/FixMessage" "values" "[Ljava/lang/String;" (.ref y)
theorem ef_fini (m : MethodId) (x0 : Addr) (x1 : Addr) (x2 : Addr) : entryFrame m #[(.ref x0), (.ref x1), (.ref x2)] 3 = mkF m 0 #[.val (.ref x0), .val (.ref x1), .val (.ref x2)] [] := by first | (simp [entryFrame, mkF, argsToLocals, Value.category]; done) | rfl
set_option maxRecDepth 65536 in
set_option maxHeartbeats 40000000 in
theorem rm_fini (l : Launch) (Z : State) (a0 : Array Value) (hw : ∀ d ∈ tables_1, d.before a0 Z = true) (a : Addr) (x : Addr) (y : Addr) (h0 : Heap) (n0 : Nat) (Z0 : n0 ≤ h0.size) (F_tags_a : Fld Z h0 a "com/example/crosstide/crosstide/fix/FixMessage" "tags" "[I" .null) (F_values_a : Fld Z h0 a "com/example/crosstide/crosstide/fix/FixMessage" "values" "[Ljava/lang/String;" .null) (E_a : Exa Z h0 a "com/example/crosstide/crosstide/fix/FixMessage") (g_a : n0 ≤ a) :
    Ct l Z (⟨"com/example/crosstide/crosstide/fix/FixMessage", "<init>", "([I[Ljava/lang/String;)V"⟩ : MethodName) prog_57_method_1_code 3 none [] ({ frames := 1, cells := 0, slots := 0, locals := 12 } : Room) #[(.ref a), (.ref x), (.ref y)] h0 (Q_fini Z a x y h0 n0) := by
  refine own_body (plainFor_of_name pn_2) (fun m => ef_fini m a x y) ?_
  intro p e s m below meth c T0 hx hby hml hZ hown hnm hret hlk X0 e0
  have N0 := Fr.nil n0
  refine g_aloadN X0 hx (hb hby d_prog_57_m_1_0) rfl rfl rfl ?_
  refine g_initO X0 hx hZ hown (hw _ (List.mem_of_getElem? (i := 38) rfl)) (hw _ (List.mem_of_getElem? (i := 12) rfl)) (hw _ (List.mem_of_getElem? (i := 13) rfl)) e0 (by rw [hml]; rfl) (hb hby d_prog_57_m_1_1) rfl (by decide) (W := 0) (Nat.le_of_eq rfl) (by decide) fun T1 X1 e1 => ?_
  refine g_aloadN X1 hx (hb hby d_prog_57_m_1_4) rfl rfl rfl ?_
  refine g_aloadN X1 hx (hb hby d_prog_57_m_1_5) rfl rfl rfl ?_
  refine g_putF X1 hx hZ hown (host := "") (Or.inl (hw _ (List.mem_of_getElem? (i := 39) rfl))) Via.refl e1 F_tags_a E_a (Or.inr ⟨(hw _ (List.mem_of_getElem? (i := 40) rfl)), rfl, hnm⟩) (hw _ (List.mem_of_getElem? (i := 33) rfl)) (ty := (.array .int)) (by decide) rfl rfl (hb hby d_prog_57_m_1_6) rfl fun T2 h2 X2 e2 W2 F2 => ?_
  have kk2 : Keep h0 h2 [a] := (Keep.refl h0 [a]).wr W2 (Or.inl (by simp))
  have N2 := Fr.snoc X2 N0 g_a
  have Z2 : n0 ≤ h2.size := by rw [W2.size]; exact Z0
  refine g_aloadN X2 hx (hb hby d_prog_57_m_1_9) rfl rfl rfl ?_
  refine g_aloadN X2 hx (hb hby d_prog_57_m_1_10) rfl rfl rfl ?_
  have f4 : Fld Z h2 a "com/example/crosstide/crosstide/fix/FixMessage" "values" "[Ljava/lang/String;" .null := (F_values_a.other W2 (Or.inr (slot_ne (Or.inr (hw _ (List.mem_of_getElem? (i := 42) rfl))) (Or.inr (hw _ (List.mem_of_getElem? (i := 40) rfl))) (by decide) (t := (.array (.object "java/lang/String"))) (t' := (.array .int)) (by decide) (by decide))))
  have f5 : Exa Z h2 a "com/example/crosstide/crosstide/fix/FixMessage" := (E_a.wr W2)
  refine g_putF X2 hx hZ hown (host := "") (Or.inl (hw _ (List.mem_of_getElem? (i := 41) rfl))) Via.refl e2 f4 f5 (Or.inr ⟨(hw _ (List.mem_of_getElem? (i := 42) rfl)), rfl, hnm⟩) (hw _ (List.mem_of_getElem? (i := 33) rfl)) (ty := (.array (.object "java/lang/String"))) (by decide) rfl rfl (hb hby d_prog_57_m_1_11) rfl fun T3 h3 X3 e3 W3 F3 => ?_
  have kk3 : Keep h0 h3 [a] := kk2.wr W3 (Or.inl (by simp))
  have N3 := Fr.snoc X3 N2 g_a
  have Z3 : n0 ≤ h3.size := by rw [W3.size]; exact Z2
  have f6 : Exa Z h3 a "com/example/crosstide/crosstide/fix/FixMessage" := (f5.wr W3)
  have f7 : Fld Z h3 a "com/example/crosstide/crosstide/fix/FixMessage" "tags" "[I" (.ref x) := (F2.other W3 (Or.inr (slot_ne (Or.inr (hw _ (List.mem_of_getElem? (i := 40) rfl))) (Or.inr (hw _ (List.mem_of_getElem? (i := 42) rfl))) (by decide) (t := (.array .int)) (t' := (.array (.object "java/lang/String"))) (by decide) (by decide))))
  exact g_ret X3 hx hret hlk (hb hby d_prog_57_m_1_14) (by decide) (by decide) (by rw [e3]; exact ⟨rfl, N3, kk3, f6, f7, F3⟩)
def Q_get0_x (Z : State) (a : Addr) (x : Addr) (kx : ClassId) (y : Addr) (ky : ClassId) (z : Int32) (h0 : Heap) (n0 : Nat) (v : Option Value) (h : Heap) (L : List Loc) : Prop := v = some .null ∧ Fr n0 L ∧ h = h0
theorem ef_get0_x (m : MethodId) (x0 : Addr) (x1 : Int32) : entryFrame m #[(.ref x0), (.int x1)] 3 = mkF m 0 #[.val (.ref x0), .val (.int x1), .unset] [] := by first | (simp [entryFrame, mkF, argsToLocals, Value.category]; done) | rfl
set_option maxRecDepth 65536 in
set_option maxHeartbeats 40000000 in
theorem rm_get0_x (l : Launch) (Z : State) (a0 : Array Value) (hw : ∀ d ∈ tables_1, d.before a0 Z = true) (a : Addr) (x : Addr) (kx : ClassId) (y : Addr) (ky : ClassId) (z : Int32) (h0 : Heap) (n0 : Nat) (Z0 : n0 ≤ h0.size) (F_tags_a : Fld Z h0 a "com/example/crosstide/crosstide/fix/FixMessage" "tags" "[I" (.ref x)) (F_values_a : Fld Z h0 a "com/example/crosstide/crosstide/fix/FixMessage" "values" "[Ljava/lang/String;" (.ref y)) (V_x : Arv Z h0 x kx .int (0 : Int32) [] (.int (0 : Int32))) (V_y : Arv Z h0 y ky (.object "java/lang/String") (0 : Int32) [] .null) :
    Ct l Z (⟨"com/example/crosstide/crosstide/fix/FixMessage", "get", "(I)Ljava/lang/String;"⟩ : MethodName) prog_57_method_3_code 3 (some (.object "java/lang/String")) [] ({ frames := 0, cells := 0, slots := 0, locals := 0 } : Room) #[(.ref a), (.int z)] h0 (Q_get0_x Z a x kx y ky z h0 n0) := by
  refine own_body (plainFor_of_name pn_2) (fun m => ef_get0_x m a z) ?_
  intro p e s m below meth c T0 hx hby hml hZ hown hnm hret hlk X0 e0
  have N0 := Fr.nil n0
  refine g_iconst X0 hx (r := (0 : Int32)) (hb hby d_prog_57_m_3_0) rfl rfl ?_
  refine g_istoreN X0 hx (Ls' := #[.val (.ref a), .val (.int z), .val (.int (0 : Int32))]) (hb hby d_prog_57_m_3_1) rfl rfl ?_
  refine g_iloadN X0 hx (hb hby d_prog_57_m_3_2) rfl rfl ?_
  refine g_aloadN X0 hx (hb hby d_prog_57_m_3_3) rfl rfl rfl ?_
  refine g_getF X0 hx hZ hown (host := "") (Or.inl (hw _ (List.mem_of_getElem? (i := 39) rfl))) Via.refl e0 F_tags_a (hb hby d_prog_57_m_3_4) rfl fun T1 X1 e1 => ?_
  refine g_len X1 hx hZ e1 V_x (hb hby d_prog_57_m_3_7) rfl ?_
  refine g_icmpY X1 hx (q := 34) (hb hby d_prog_57_m_3_8) (XT.ii_ge_t (by decide : ¬ (0 : Int32) < (0 : Int32))) (by decide) (by decide) ?_
  refine g_aconst_null X1 hx (hb hby d_prog_57_m_3_34) rfl  ?_
  exact g_retR X1 hx hret hlk rfl rfl rfl (hb hby d_prog_57_m_3_35) (by decide) (by decide) (by rw [e1]; exact ⟨rfl, N0, rfl⟩)
def Q_get1_0 (Z : State) (a : Addr) (x : Addr) (kx : ClassId) (y : Addr) (ky : ClassId) (z : Int32) (t0 : Int32) (u0 : Addr) (h0 : Heap) (n0 : Nat) (v : Option Value) (h : Heap) (L : List Loc) : Prop := v = some (.ref u0) ∧ Fr n0 L ∧ h = h0
theorem ef_get1_0 (m : MethodId) (x0 : Addr) (x1 : Int32) : entryFrame m #[(.ref x0), (.int x1)] 3 = mkF m 0 #[.val (.ref x0), .val (.int x1), .unset] [] := by first | (simp [entryFrame, mkF, argsToLocals, Value.category]; done) | rfl
set_option maxRecDepth 65536 in
set_option maxHeartbeats 40000000 in
theorem rm_get1_0 (l : Launch) (Z : State) (a0 : Array Value) (hw : ∀ d ∈ tables_1, d.before a0 Z = true) (a : Addr) (x : Addr) (kx : ClassId) (y : Addr) (ky : ClassId) (z : Int32) (t0 : Int32) (u0 : Addr) (h0 : Heap) (n0 : Nat) (Z0 : n0 ≤ h0.size) (F_tags_a : Fld Z h0 a "com/example/crosstide/crosstide/fix/FixMessage" "tags" "[I" (.ref x)) (F_values_a : Fld Z h0 a "com/example/crosstide/crosstide/fix/FixMessage" "values" "[Ljava/lang/String;" (.ref y)) (V_x : Arv Z h0 x kx .int (1 : Int32) [(.int t0)] (.int (0 : Int32))) (V_y : Arv Z h0 y ky (.object "java/lang/String") (1 : Int32) [(.ref u0)] .null) (hk0 : t0 = z) :
    Ct l Z (⟨"com/example/crosstide/crosstide/fix/FixMessage", "get", "(I)Ljava/lang/String;"⟩ : MethodName) prog_57_method_3_code 3 (some (.object "java/lang/String")) [] ({ frames := 0, cells := 0, slots := 0, locals := 0 } : Room) #[(.ref a), (.int z)] h0 (Q_get1_0 Z a x kx y ky z t0 u0 h0 n0) := by
  refine own_body (plainFor_of_name pn_2) (fun m => ef_get1_0 m a z) ?_
  intro p e s m below meth c T0 hx hby hml hZ hown hnm hret hlk X0 e0
  have N0 := Fr.nil n0
  refine g_iconst X0 hx (r := (0 : Int32)) (hb hby d_prog_57_m_3_0) rfl rfl ?_
  refine g_istoreN X0 hx (Ls' := #[.val (.ref a), .val (.int z), .val (.int (0 : Int32))]) (hb hby d_prog_57_m_3_1) rfl rfl ?_
  refine g_iloadN X0 hx (hb hby d_prog_57_m_3_2) rfl rfl ?_
  refine g_aloadN X0 hx (hb hby d_prog_57_m_3_3) rfl rfl rfl ?_
  refine g_getF X0 hx hZ hown (host := "") (Or.inl (hw _ (List.mem_of_getElem? (i := 39) rfl))) Via.refl e0 F_tags_a (hb hby d_prog_57_m_3_4) rfl fun T1 X1 e1 => ?_
  refine g_len X1 hx hZ e1 V_x (hb hby d_prog_57_m_3_7) rfl ?_
  refine g_icmpN X1 hx (hb hby d_prog_57_m_3_8) rfl (XT.ii_ge_f (by decide : (0 : Int32) < (1 : Int32))) ?_
  refine g_aloadN X1 hx (hb hby d_prog_57_m_3_11) rfl rfl rfl ?_
  refine g_getF X1 hx hZ hown (host := "") (Or.inl (hw _ (List.mem_of_getElem? (i := 39) rfl))) Via.refl e1 F_tags_a (hb hby d_prog_57_m_3_12) rfl fun T2 X2 e2 => ?_
  refine g_iloadN X2 hx (hb hby d_prog_57_m_3_15) rfl rfl ?_
  refine g_iaload X2 hx hZ e2 V_x (v := (.int t0)) ⟨by decide, by decide⟩ rfl (hb hby d_prog_57_m_3_16) rfl ?_
  refine g_iloadN X2 hx (hb hby d_prog_57_m_3_17) rfl rfl ?_
  have hc18 : t0 = z := hk0
  refine g_icmpN X2 hx (hb hby d_prog_57_m_3_18) rfl (XT.ii_ne_f hc18) ?_
  refine g_aloadN X2 hx (hb hby d_prog_57_m_3_21) rfl rfl rfl ?_
  refine g_getF X2 hx hZ hown (host := "") (Or.inl (hw _ (List.mem_of_getElem? (i := 41) rfl))) Via.refl e2 F_values_a (hb hby d_prog_57_m_3_22) rfl fun T3 X3 e3 => ?_
  refine g_iloadN X3 hx (hb hby d_prog_57_m_3_25) rfl rfl ?_
  refine g_aaload X3 hx hZ e3 V_y rfl (v := (.ref u0)) ⟨by decide, by decide⟩ rfl (hb hby d_prog_57_m_3_26) rfl ?_
  exact g_retR X3 hx hret hlk rfl rfl rfl (hb hby d_prog_57_m_3_27) (by decide) (by decide) (by rw [e3]; exact ⟨rfl, N0, rfl⟩)
def Q_get1_x (Z : State) (a : Addr) (x : Addr) (kx : ClassId) (y : Addr) (ky : ClassId) (z : Int32) (t0 : Int32) (u0 : Addr) (h0 : Heap) (n0 : Nat) (v : Option Value) (h : Heap) (L : List Loc) : Prop := v = some .null ∧ Fr n0 L ∧ h = h0
theorem ef_get1_x (m : MethodId) (x0 : Addr) (x1 : Int32) : entryFrame m #[(.ref x0), (.int x1)] 3 = mkF m 0 #[.val (.ref x0), .val (.int x1), .unset] [] := by first | (simp [entryFrame, mkF, argsToLocals, Value.category]; done) | rfl
set_option maxRecDepth 65536 in
set_option maxHeartbeats 40000000 in
theorem rm_get1_x (l : Launch) (Z : State) (a0 : Array Value) (hw : ∀ d ∈ tables_1, d.before a0 Z = true) (a : Addr) (x : Addr) (kx : ClassId) (y : Addr) (ky : ClassId) (z : Int32) (t0 : Int32) (u0 : Addr) (h0 : Heap) (n0 : Nat) (Z0 : n0 ≤ h0.size) (F_tags_a : Fld Z h0 a "com/example/crosstide/crosstide/fix/FixMessage" "tags" "[I" (.ref x)) (F_values_a : Fld Z h0 a "com/example/crosstide/crosstide/fix/FixMessage" "values" "[Ljava/lang/String;" (.ref y)) (V_x : Arv Z h0 x kx .int (1 : Int32) [(.int t0)] (.int (0 : Int32))) (V_y : Arv Z h0 y ky (.object "java/lang/String") (1 : Int32) [(.ref u0)] .null) (hk0 : ¬ t0 = z) :
    Ct l Z (⟨"com/example/crosstide/crosstide/fix/FixMessage", "get", "(I)Ljava/lang/String;"⟩ : MethodName) prog_57_method_3_code 3 (some (.object "java/lang/String")) [] ({ frames := 0, cells := 0, slots := 0, locals := 0 } : Room) #[(.ref a), (.int z)] h0 (Q_get1_x Z a x kx y ky z t0 u0 h0 n0) := by
  refine own_body (plainFor_of_name pn_2) (fun m => ef_get1_x m a z) ?_
  intro p e s m below meth c T0 hx hby hml hZ hown hnm hret hlk X0 e0
  have N0 := Fr.nil n0
  refine g_iconst X0 hx (r := (0 : Int32)) (hb hby d_prog_57_m_3_0) rfl rfl ?_
  refine g_istoreN X0 hx (Ls' := #[.val (.ref a), .val (.int z), .val (.int (0 : Int32))]) (hb hby d_prog_57_m_3_1) rfl rfl ?_
  refine g_iloadN X0 hx (hb hby d_prog_57_m_3_2) rfl rfl ?_
  refine g_aloadN X0 hx (hb hby d_prog_57_m_3_3) rfl rfl rfl ?_
  refine g_getF X0 hx hZ hown (host := "") (Or.inl (hw _ (List.mem_of_getElem? (i := 39) rfl))) Via.refl e0 F_tags_a (hb hby d_prog_57_m_3_4) rfl fun T1 X1 e1 => ?_
  refine g_len X1 hx hZ e1 V_x (hb hby d_prog_57_m_3_7) rfl ?_
  refine g_icmpN X1 hx (hb hby d_prog_57_m_3_8) rfl (XT.ii_ge_f (by decide : (0 : Int32) < (1 : Int32))) ?_
  refine g_aloadN X1 hx (hb hby d_prog_57_m_3_11) rfl rfl rfl ?_
  refine g_getF X1 hx hZ hown (host := "") (Or.inl (hw _ (List.mem_of_getElem? (i := 39) rfl))) Via.refl e1 F_tags_a (hb hby d_prog_57_m_3_12) rfl fun T2 X2 e2 => ?_
  refine g_iloadN X2 hx (hb hby d_prog_57_m_3_15) rfl rfl ?_
  refine g_iaload X2 hx hZ e2 V_x (v := (.int t0)) ⟨by decide, by decide⟩ rfl (hb hby d_prog_57_m_3_16) rfl ?_
  refine g_iloadN X2 hx (hb hby d_prog_57_m_3_17) rfl rfl ?_
  have hc18 : ¬ t0 = z := hk0
  refine g_icmpY X2 hx (q := 28) (hb hby d_prog_57_m_3_18) (XT.ii_ne_t hc18) (by decide) (by decide) ?_
  refine g_iinc X2 hx (r := (1 : Int32)) (Ls' := #[.val (.ref a), .val (.int z), .val (.int (1 : Int32))]) (hb hby d_prog_57_m_3_28) rfl rfl rfl rfl ?_
  refine g_goto X2 hx (q := 2) (hb hby d_prog_57_m_3_31) (by decide) (by decide) ?_
  refine g_iloadN X2 hx (hb hby d_prog_57_m_3_2) rfl rfl ?_
  refine g_aloadN X2 hx (hb hby d_prog_57_m_3_3) rfl rfl rfl ?_
  refine g_getF X2 hx hZ hown (host := "") (Or.inl (hw _ (List.mem_of_getElem? (i := 39) rfl))) Via.refl e2 F_tags_a (hb hby d_prog_57_m_3_4) rfl fun T3 X3 e3 => ?_
  refine g_len X3 hx hZ e3 V_x (hb hby d_prog_57_m_3_7) rfl ?_
  refine g_icmpY X3 hx (q := 34) (hb hby d_prog_57_m_3_8) (XT.ii_ge_t (by decide : ¬ (1 : Int32) < (1 : Int32))) (by decide) (by decide) ?_
  refine g_aconst_null X3 hx (hb hby d_prog_57_m_3_34) rfl  ?_
  exact g_retR X3 hx hret hlk rfl rfl rfl (hb hby d_prog_57_m_3_35) (by decide) (by decide) (by rw [e3]; exact ⟨rfl, N0, rfl⟩)
def Q_get2_0 (Z : State) (a : Addr) (x : Addr) (kx : ClassId) (y : Addr) (ky : ClassId) (z : Int32) (t0 : Int32) (t1 : Int32) (u0 : Addr) (u1 : Addr) (h0 : Heap) (n0 : Nat) (v : Option Value) (h : Heap) (L : List Loc) : Prop := v = some (.ref u0) ∧ Fr n0 L ∧ h = h0
theorem ef_get2_0 (m : MethodId) (x0 : Addr) (x1 : Int32) : entryFrame m #[(.ref x0), (.int x1)] 3 = mkF m 0 #[.val (.ref x0), .val (.int x1), .unset] [] := by first | (simp [entryFrame, mkF, argsToLocals, Value.category]; done) | rfl
set_option maxRecDepth 65536 in
set_option maxHeartbeats 40000000 in
theorem rm_get2_0 (l : Launch) (Z : State) (a0 : Array Value) (hw : ∀ d ∈ tables_1, d.before a0 Z = true) (a : Addr) (x : Addr) (kx : ClassId) (y : Addr) (ky : ClassId) (z : Int32) (t0 : Int32) (t1 : Int32) (u0 : Addr) (u1 : Addr) (h0 : Heap) (n0 : Nat) (Z0 : n0 ≤ h0.size) (F_tags_a : Fld Z h0 a "com/example/crosstide/crosstide/fix/FixMessage" "tags" "[I" (.ref x)) (F_values_a : Fld Z h0 a "com/example/crosstide/crosstide/fix/FixMessage" "values" "[Ljava/lang/String;" (.ref y)) (V_x : Arv Z h0 x kx .int (2 : Int32) [(.int t0), (.int t1)] (.int (0 : Int32))) (V_y : Arv Z h0 y ky (.object "java/lang/String") (2 : Int32) [(.ref u0), (.ref u1)] .null) (hk0 : t0 = z) :
    Ct l Z (⟨"com/example/crosstide/crosstide/fix/FixMessage", "get", "(I)Ljava/lang/String;"⟩ : MethodName) prog_57_method_3_code 3 (some (.object "java/lang/String")) [] ({ frames := 0, cells := 0, slots := 0, locals := 0 } : Room) #[(.ref a), (.int z)] h0 (Q_get2_0 Z a x kx y ky z t0 t1 u0 u1 h0 n0) := by
  refine own_body (plainFor_of_name pn_2) (fun m => ef_get2_0 m a z) ?_
  intro p e s m below meth c T0 hx hby hml hZ hown hnm hret hlk X0 e0
  have N0 := Fr.nil n0
  refine g_iconst X0 hx (r := (0 : Int32)) (hb hby d_prog_57_m_3_0) rfl rfl ?_
  refine g_istoreN X0 hx (Ls' := #[.val (.ref a), .val (.int z), .val (.int (0 : Int32))]) (hb hby d_prog_57_m_3_1) rfl rfl ?_
  refine g_iloadN X0 hx (hb hby d_prog_57_m_3_2) rfl rfl ?_
  refine g_aloadN X0 hx (hb hby d_prog_57_m_3_3) rfl rfl rfl ?_
  refine g_getF X0 hx hZ hown (host := "") (Or.inl (hw _ (List.mem_of_getElem? (i := 39) rfl))) Via.refl e0 F_tags_a (hb hby d_prog_57_m_3_4) rfl fun T1 X1 e1 => ?_
  refine g_len X1 hx hZ e1 V_x (hb hby d_prog_57_m_3_7) rfl ?_
  refine g_icmpN X1 hx (hb hby d_prog_57_m_3_8) rfl (XT.ii_ge_f (by decide : (0 : Int32) < (2 : Int32))) ?_
  refine g_aloadN X1 hx (hb hby d_prog_57_m_3_11) rfl rfl rfl ?_
  refine g_getF X1 hx hZ hown (host := "") (Or.inl (hw _ (List.mem_of_getElem? (i := 39) rfl))) Via.refl e1 F_tags_a (hb hby d_prog_57_m_3_12) rfl fun T2 X2 e2 => ?_
  refine g_iloadN X2 hx (hb hby d_prog_57_m_3_15) rfl rfl ?_
  refine g_iaload X2 hx hZ e2 V_x (v := (.int t0)) ⟨by decide, by decide⟩ rfl (hb hby d_prog_57_m_3_16) rfl ?_
  refine g_iloadN X2 hx (hb hby d_prog_57_m_3_17) rfl rfl ?_
  have hc18 : t0 = z := hk0
  refine g_icmpN X2 hx (hb hby d_prog_57_m_3_18) rfl (XT.ii_ne_f hc18) ?_
  refine g_aloadN X2 hx (hb hby d_prog_57_m_3_21) rfl rfl rfl ?_
  refine g_getF X2 hx hZ hown (host := "") (Or.inl (hw _ (List.mem_of_getElem? (i := 41) rfl))) Via.refl e2 F_values_a (hb hby d_prog_57_m_3_22) rfl fun T3 X3 e3 => ?_
  refine g_iloadN X3 hx (hb hby d_prog_57_m_3_25) rfl rfl ?_
  refine g_aaload X3 hx hZ e3 V_y rfl (v := (.ref u0)) ⟨by decide, by decide⟩ rfl (hb hby d_prog_57_m_3_26) rfl ?_
  exact g_retR X3 hx hret hlk rfl rfl rfl (hb hby d_prog_57_m_3_27) (by decide) (by decide) (by rw [e3]; exact ⟨rfl, N0, rfl⟩)
def Q_get2_1 (Z : State) (a : Addr) (x : Addr) (kx : ClassId) (y : Addr) (ky : ClassId) (z : Int32) (t0 : Int32) (t1 : Int32) (u0 : Addr) (u1 : Addr) (h0 : Heap) (n0 : Nat) (v : Option Value) (h : Heap) (L : List Loc) : Prop := v = some (.ref u1) ∧ Fr n0 L ∧ h = h0
theorem ef_get2_1 (m : MethodId) (x0 : Addr) (x1 : Int32) : entryFrame m #[(.ref x0), (.int x1)] 3 = mkF m 0 #[.val (.ref x0), .val (.int x1), .unset] [] := by first | (simp [entryFrame, mkF, argsToLocals, Value.category]; done) | rfl
set_option maxRecDepth 65536 in
set_option maxHeartbeats 40000000 in
theorem rm_get2_1 (l : Launch) (Z : State) (a0 : Array Value) (hw : ∀ d ∈ tables_1, d.before a0 Z = true) (a : Addr) (x : Addr) (kx : ClassId) (y : Addr) (ky : ClassId) (z : Int32) (t0 : Int32) (t1 : Int32) (u0 : Addr) (u1 : Addr) (h0 : Heap) (n0 : Nat) (Z0 : n0 ≤ h0.size) (F_tags_a : Fld Z h0 a "com/example/crosstide/crosstide/fix/FixMessage" "tags" "[I" (.ref x)) (F_values_a : Fld Z h0 a "com/example/crosstide/crosstide/fix/FixMessage" "values" "[Ljava/lang/String;" (.ref y)) (V_x : Arv Z h0 x kx .int (2 : Int32) [(.int t0), (.int t1)] (.int (0 : Int32))) (V_y : Arv Z h0 y ky (.object "java/lang/String") (2 : Int32) [(.ref u0), (.ref u1)] .null) (hk0 : ¬ t0 = z) (hk1 : t1 = z) :
    Ct l Z (⟨"com/example/crosstide/crosstide/fix/FixMessage", "get", "(I)Ljava/lang/String;"⟩ : MethodName) prog_57_method_3_code 3 (some (.object "java/lang/String")) [] ({ frames := 0, cells := 0, slots := 0, locals := 0 } : Room) #[(.ref a), (.int z)] h0 (Q_get2_1 Z a x kx y ky z t0 t1 u0 u1 h0 n0) := by
  refine own_body (plainFor_of_name pn_2) (fun m => ef_get2_1 m a z) ?_
  intro p e s m below meth c T0 hx hby hml hZ hown hnm hret hlk X0 e0
  have N0 := Fr.nil n0
  refine g_iconst X0 hx (r := (0 : Int32)) (hb hby d_prog_57_m_3_0) rfl rfl ?_
  refine g_istoreN X0 hx (Ls' := #[.val (.ref a), .val (.int z), .val (.int (0 : Int32))]) (hb hby d_prog_57_m_3_1) rfl rfl ?_
  refine g_iloadN X0 hx (hb hby d_prog_57_m_3_2) rfl rfl ?_
  refine g_aloadN X0 hx (hb hby d_prog_57_m_3_3) rfl rfl rfl ?_
  refine g_getF X0 hx hZ hown (host := "") (Or.inl (hw _ (List.mem_of_getElem? (i := 39) rfl))) Via.refl e0 F_tags_a (hb hby d_prog_57_m_3_4) rfl fun T1 X1 e1 => ?_
  refine g_len X1 hx hZ e1 V_x (hb hby d_prog_57_m_3_7) rfl ?_
  refine g_icmpN X1 hx (hb hby d_prog_57_m_3_8) rfl (XT.ii_ge_f (by decide : (0 : Int32) < (2 : Int32))) ?_
  refine g_aloadN X1 hx (hb hby d_prog_57_m_3_11) rfl rfl rfl ?_
  refine g_getF X1 hx hZ hown (host := "") (Or.inl (hw _ (List.mem_of_getElem? (i := 39) rfl))) Via.refl e1 F_tags_a (hb hby d_prog_57_m_3_12) rfl fun T2 X2 e2 => ?_
  refine g_iloadN X2 hx (hb hby d_prog_57_m_3_15) rfl rfl ?_
  refine g_iaload X2 hx hZ e2 V_x (v := (.int t0)) ⟨by decide, by decide⟩ rfl (hb hby d_prog_57_m_3_16) rfl ?_
  refine g_iloadN X2 hx (hb hby d_prog_57_m_3_17) rfl rfl ?_
  have hc18 : ¬ t0 = z := hk0
  refine g_icmpY X2 hx (q := 28) (hb hby d_prog_57_m_3_18) (XT.ii_ne_t hc18) (by decide) (by decide) ?_
  refine g_iinc X2 hx (r := (1 : Int32)) (Ls' := #[.val (.ref a), .val (.int z), .val (.int (1 : Int32))]) (hb hby d_prog_57_m_3_28) rfl rfl rfl rfl ?_
  refine g_goto X2 hx (q := 2) (hb hby d_prog_57_m_3_31) (by decide) (by decide) ?_
  refine g_iloadN X2 hx (hb hby d_prog_57_m_3_2) rfl rfl ?_
  refine g_aloadN X2 hx (hb hby d_prog_57_m_3_3) rfl rfl rfl ?_
  refine g_getF X2 hx hZ hown (host := "") (Or.inl (hw _ (List.mem_of_getElem? (i := 39) rfl))) Via.refl e2 F_tags_a (hb hby d_prog_57_m_3_4) rfl fun T3 X3 e3 => ?_
  refine g_len X3 hx hZ e3 V_x (hb hby d_prog_57_m_3_7) rfl ?_
  refine g_icmpN X3 hx (hb hby d_prog_57_m_3_8) rfl (XT.ii_ge_f (by decide : (1 : Int32) < (2 : Int32))) ?_
  refine g_aloadN X3 hx (hb hby d_prog_57_m_3_11) rfl rfl rfl ?_
  refine g_getF X3 hx hZ hown (host := "") (Or.inl (hw _ (List.mem_of_getElem? (i := 39) rfl))) Via.refl e3 F_tags_a (hb hby d_prog_57_m_3_12) rfl fun T4 X4 e4 => ?_
  refine g_iloadN X4 hx (hb hby d_prog_57_m_3_15) rfl rfl ?_
  refine g_iaload X4 hx hZ e4 V_x (v := (.int t1)) ⟨by decide, by decide⟩ rfl (hb hby d_prog_57_m_3_16) rfl ?_
  refine g_iloadN X4 hx (hb hby d_prog_57_m_3_17) rfl rfl ?_
  have hc18_2 : t1 = z := hk1
  refine g_icmpN X4 hx (hb hby d_prog_57_m_3_18) rfl (XT.ii_ne_f hc18_2) ?_
  refine g_aloadN X4 hx (hb hby d_prog_57_m_3_21) rfl rfl rfl ?_
  refine g_getF X4 hx hZ hown (host := "") (Or.inl (hw _ (List.mem_of_getElem? (i := 41) rfl))) Via.refl e4 F_values_a (hb hby d_prog_57_m_3_22) rfl fun T5 X5 e5 => ?_
  refine g_iloadN X5 hx (hb hby d_prog_57_m_3_25) rfl rfl ?_
  refine g_aaload X5 hx hZ e5 V_y rfl (v := (.ref u1)) ⟨by decide, by decide⟩ rfl (hb hby d_prog_57_m_3_26) rfl ?_
  exact g_retR X5 hx hret hlk rfl rfl rfl (hb hby d_prog_57_m_3_27) (by decide) (by decide) (by rw [e5]; exact ⟨rfl, N0, rfl⟩)
def Q_get2_x (Z : State) (a : Addr) (x : Addr) (kx : ClassId) (y : Addr) (ky : ClassId) (z : Int32) (t0 : Int32) (t1 : Int32) (u0 : Addr) (u1 : Addr) (h0 : Heap) (n0 : Nat) (v : Option Value) (h : Heap) (L : List Loc) : Prop := v = some .null ∧ Fr n0 L ∧ h = h0
theorem ef_get2_x (m : MethodId) (x0 : Addr) (x1 : Int32) : entryFrame m #[(.ref x0), (.int x1)] 3 = mkF m 0 #[.val (.ref x0), .val (.int x1), .unset] [] := by first | (simp [entryFrame, mkF, argsToLocals, Value.category]; done) | rfl
set_option maxRecDepth 65536 in
set_option maxHeartbeats 40000000 in
theorem rm_get2_x (l : Launch) (Z : State) (a0 : Array Value) (hw : ∀ d ∈ tables_1, d.before a0 Z = true) (a : Addr) (x : Addr) (kx : ClassId) (y : Addr) (ky : ClassId) (z : Int32) (t0 : Int32) (t1 : Int32) (u0 : Addr) (u1 : Addr) (h0 : Heap) (n0 : Nat) (Z0 : n0 ≤ h0.size) (F_tags_a : Fld Z h0 a "com/example/crosstide/crosstide/fix/FixMessage" "tags" "[I" (.ref x)) (F_values_a : Fld Z h0 a "com/example/crosstide/crosstide/fix/FixMessage" "values" "[Ljava/lang/String;" (.ref y)) (V_x : Arv Z h0 x kx .int (2 : Int32) [(.int t0), (.int t1)] (.int (0 : Int32))) (V_y : Arv Z h0 y ky (.object "java/lang/String") (2 : Int32) [(.ref u0), (.ref u1)] .null) (hk0 : ¬ t0 = z) (hk1 : ¬ t1 = z) :
    Ct l Z (⟨"com/example/crosstide/crosstide/fix/FixMessage", "get", "(I)Ljava/lang/String;"⟩ : MethodName) prog_57_method_3_code 3 (some (.object "java/lang/String")) [] ({ frames := 0, cells := 0, slots := 0, locals := 0 } : Room) #[(.ref a), (.int z)] h0 (Q_get2_x Z a x kx y ky z t0 t1 u0 u1 h0 n0) := by
  refine own_body (plainFor_of_name pn_2) (fun m => ef_get2_x m a z) ?_
  intro p e s m below meth c T0 hx hby hml hZ hown hnm hret hlk X0 e0
  have N0 := Fr.nil n0
  refine g_iconst X0 hx (r := (0 : Int32)) (hb hby d_prog_57_m_3_0) rfl rfl ?_
  refine g_istoreN X0 hx (Ls' := #[.val (.ref a), .val (.int z), .val (.int (0 : Int32))]) (hb hby d_prog_57_m_3_1) rfl rfl ?_
  refine g_iloadN X0 hx (hb hby d_prog_57_m_3_2) rfl rfl ?_
  refine g_aloadN X0 hx (hb hby d_prog_57_m_3_3) rfl rfl rfl ?_
  refine g_getF X0 hx hZ hown (host := "") (Or.inl (hw _ (List.mem_of_getElem? (i := 39) rfl))) Via.refl e0 F_tags_a (hb hby d_prog_57_m_3_4) rfl fun T1 X1 e1 => ?_
  refine g_len X1 hx hZ e1 V_x (hb hby d_prog_57_m_3_7) rfl ?_
  refine g_icmpN X1 hx (hb hby d_prog_57_m_3_8) rfl (XT.ii_ge_f (by decide : (0 : Int32) < (2 : Int32))) ?_
  refine g_aloadN X1 hx (hb hby d_prog_57_m_3_11) rfl rfl rfl ?_
  refine g_getF X1 hx hZ hown (host := "") (Or.inl (hw _ (List.mem_of_getElem? (i := 39) rfl))) Via.refl e1 F_tags_a (hb hby d_prog_57_m_3_12) rfl fun T2 X2 e2 => ?_
  refine g_iloadN X2 hx (hb hby d_prog_57_m_3_15) rfl rfl ?_
  refine g_iaload X2 hx hZ e2 V_x (v := (.int t0)) ⟨by decide, by decide⟩ rfl (hb hby d_prog_57_m_3_16) rfl ?_
  refine g_iloadN X2 hx (hb hby d_prog_57_m_3_17) rfl rfl ?_
  have hc18 : ¬ t0 = z := hk0
  refine g_icmpY X2 hx (q := 28) (hb hby d_prog_57_m_3_18) (XT.ii_ne_t hc18) (by decide) (by decide) ?_
  refine g_iinc X2 hx (r := (1 : Int32)) (Ls' := #[.val (.ref a), .val (.int z), .val (.int (1 : Int32))]) (hb hby d_prog_57_m_3_28) rfl rfl rfl rfl ?_
  refine g_goto X2 hx (q := 2) (hb hby d_prog_57_m_3_31) (by decide) (by decide) ?_
  refine g_iloadN X2 hx (hb hby d_prog_57_m_3_2) rfl rfl ?_
  refine g_aloadN X2 hx (hb hby d_prog_57_m_3_3) rfl rfl rfl ?_
  refine g_getF X2 hx hZ hown (host := "") (Or.inl (hw _ (List.mem_of_getElem? (i := 39) rfl))) Via.refl e2 F_tags_a (hb hby d_prog_57_m_3_4) rfl fun T3 X3 e3 => ?_
  refine g_len X3 hx hZ e3 V_x (hb hby d_prog_57_m_3_7) rfl ?_
  refine g_icmpN X3 hx (hb hby d_prog_57_m_3_8) rfl (XT.ii_ge_f (by decide : (1 : Int32) < (2 : Int32))) ?_
  refine g_aloadN X3 hx (hb hby d_prog_57_m_3_11) rfl rfl rfl ?_
  refine g_getF X3 hx hZ hown (host := "") (Or.inl (hw _ (List.mem_of_getElem? (i := 39) rfl))) Via.refl e3 F_tags_a (hb hby d_prog_57_m_3_12) rfl fun T4 X4 e4 => ?_
  refine g_iloadN X4 hx (hb hby d_prog_57_m_3_15) rfl rfl ?_
  refine g_iaload X4 hx hZ e4 V_x (v := (.int t1)) ⟨by decide, by decide⟩ rfl (hb hby d_prog_57_m_3_16) rfl ?_
  refine g_iloadN X4 hx (hb hby d_prog_57_m_3_17) rfl rfl ?_
  have hc18_2 : ¬ t1 = z := hk1
  refine g_icmpY X4 hx (q := 28) (hb hby d_prog_57_m_3_18) (XT.ii_ne_t hc18_2) (by decide) (by decide) ?_
  refine g_iinc X4 hx (r := (2 : Int32)) (Ls' := #[.val (.ref a), .val (.int z), .val (.int (2 : Int32))]) (hb hby d_prog_57_m_3_28) rfl rfl rfl rfl ?_
  refine g_goto X4 hx (q := 2) (hb hby d_prog_57_m_3_31) (by decide) (by decide) ?_
  refine g_iloadN X4 hx (hb hby d_prog_57_m_3_2) rfl rfl ?_
  refine g_aloadN X4 hx (hb hby d_prog_57_m_3_3) rfl rfl rfl ?_
  refine g_getF X4 hx hZ hown (host := "") (Or.inl (hw _ (List.mem_of_getElem? (i := 39) rfl))) Via.refl e4 F_tags_a (hb hby d_prog_57_m_3_4) rfl fun T5 X5 e5 => ?_
  refine g_len X5 hx hZ e5 V_x (hb hby d_prog_57_m_3_7) rfl ?_
  refine g_icmpY X5 hx (q := 34) (hb hby d_prog_57_m_3_8) (XT.ii_ge_t (by decide : ¬ (2 : Int32) < (2 : Int32))) (by decide) (by decide) ?_
  refine g_aconst_null X5 hx (hb hby d_prog_57_m_3_34) rfl  ?_
  exact g_retR X5 hx hret hlk rfl rfl rfl (hb hby d_prog_57_m_3_35) (by decide) (by decide) (by rw [e5]; exact ⟨rfl, N0, rfl⟩)
def Q_get3_0 (Z : State) (a : Addr) (x : Addr) (kx : ClassId) (y : Addr) (ky : ClassId) (z : Int32) (t0 : Int32) (t1 : Int32) (t2 : Int32) (u0 : Addr) (u1 : Addr) (u2 : Addr) (h0 : Heap) (n0 : Nat) (v : Option Value) (h : Heap) (L : List Loc) : Prop := v = some (.ref u0) ∧ Fr n0 L ∧ h = h0
theorem ef_get3_0 (m : MethodId) (x0 : Addr) (x1 : Int32) : entryFrame m #[(.ref x0), (.int x1)] 3 = mkF m 0 #[.val (.ref x0), .val (.int x1), .unset] [] := by first | (simp [entryFrame, mkF, argsToLocals, Value.category]; done) | rfl
set_option maxRecDepth 65536 in
set_option maxHeartbeats 40000000 in
theorem rm_get3_0 (l : Launch) (Z : State) (a0 : Array Value) (hw : ∀ d ∈ tables_1, d.before a0 Z = true) (a : Addr) (x : Addr) (kx : ClassId) (y : Addr) (ky : ClassId) (z : Int32) (t0 : Int32) (t1 : Int32) (t2 : Int32) (u0 : Addr) (u1 : Addr) (u2 : Addr) (h0 : Heap) (n0 : Nat) (Z0 : n0 ≤ h0.size) (F_tags_a : Fld Z h0 a "com/example/crosstide/crosstide/fix/FixMessage" "tags" "[I" (.ref x)) (F_values_a : Fld Z h0 a "com/example/crosstide/crosstide/fix/FixMessage" "values" "[Ljava/lang/String;" (.ref y)) (V_x : Arv Z h0 x kx .int (3 : Int32) [(.int t0), (.int t1), (.int t2)] (.int (0 : Int32))) (V_y : Arv Z h0 y ky (.object "java/lang/String") (3 : Int32) [(.ref u0), (.ref u1), (.ref u2)] .null) (hk0 : t0 = z) :
    Ct l Z (⟨"com/example/crosstide/crosstide/fix/FixMessage", "get", "(I)Ljava/lang/String;"⟩ : MethodName) prog_57_method_3_code 3 (some (.object "java/lang/String")) [] ({ frames := 0, cells := 0, slots := 0, locals := 0 } : Room) #[(.ref a), (.int z)] h0 (Q_get3_0 Z a x kx y ky z t0 t1 t2 u0 u1 u2 h0 n0) := by
  refine own_body (plainFor_of_name pn_2) (fun m => ef_get3_0 m a z) ?_
  intro p e s m below meth c T0 hx hby hml hZ hown hnm hret hlk X0 e0
  have N0 := Fr.nil n0
  refine g_iconst X0 hx (r := (0 : Int32)) (hb hby d_prog_57_m_3_0) rfl rfl ?_
  refine g_istoreN X0 hx (Ls' := #[.val (.ref a), .val (.int z), .val (.int (0 : Int32))]) (hb hby d_prog_57_m_3_1) rfl rfl ?_
  refine g_iloadN X0 hx (hb hby d_prog_57_m_3_2) rfl rfl ?_
  refine g_aloadN X0 hx (hb hby d_prog_57_m_3_3) rfl rfl rfl ?_
  refine g_getF X0 hx hZ hown (host := "") (Or.inl (hw _ (List.mem_of_getElem? (i := 39) rfl))) Via.refl e0 F_tags_a (hb hby d_prog_57_m_3_4) rfl fun T1 X1 e1 => ?_
  refine g_len X1 hx hZ e1 V_x (hb hby d_prog_57_m_3_7) rfl ?_
  refine g_icmpN X1 hx (hb hby d_prog_57_m_3_8) rfl (XT.ii_ge_f (by decide : (0 : Int32) < (3 : Int32))) ?_
  refine g_aloadN X1 hx (hb hby d_prog_57_m_3_11) rfl rfl rfl ?_
  refine g_getF X1 hx hZ hown (host := "") (Or.inl (hw _ (List.mem_of_getElem? (i := 39) rfl))) Via.refl e1 F_tags_a (hb hby d_prog_57_m_3_12) rfl fun T2 X2 e2 => ?_
  refine g_iloadN X2 hx (hb hby d_prog_57_m_3_15) rfl rfl ?_
  refine g_iaload X2 hx hZ e2 V_x (v := (.int t0)) ⟨by decide, by decide⟩ rfl (hb hby d_prog_57_m_3_16) rfl ?_
  refine g_iloadN X2 hx (hb hby d_prog_57_m_3_17) rfl rfl ?_
  have hc18 : t0 = z := hk0
  refine g_icmpN X2 hx (hb hby d_prog_57_m_3_18) rfl (XT.ii_ne_f hc18) ?_
  refine g_aloadN X2 hx (hb hby d_prog_57_m_3_21) rfl rfl rfl ?_
  refine g_getF X2 hx hZ hown (host := "") (Or.inl (hw _ (List.mem_of_getElem? (i := 41) rfl))) Via.refl e2 F_values_a (hb hby d_prog_57_m_3_22) rfl fun T3 X3 e3 => ?_
  refine g_iloadN X3 hx (hb hby d_prog_57_m_3_25) rfl rfl ?_
  refine g_aaload X3 hx hZ e3 V_y rfl (v := (.ref u0)) ⟨by decide, by decide⟩ rfl (hb hby d_prog_57_m_3_26) rfl ?_
  exact g_retR X3 hx hret hlk rfl rfl rfl (hb hby d_prog_57_m_3_27) (by decide) (by decide) (by rw [e3]; exact ⟨rfl, N0, rfl⟩)
def Q_get3_1 (Z : State) (a : Addr) (x : Addr) (kx : ClassId) (y : Addr) (ky : ClassId) (z : Int32) (t0 : Int32) (t1 : Int32) (t2 : Int32) (u0 : Addr) (u1 : Addr) (u2 : Addr) (h0 : Heap) (n0 : Nat) (v : Option Value) (h : Heap) (L : List Loc) : Prop := v = some (.ref u1) ∧ Fr n0 L ∧ h = h0
theorem ef_get3_1 (m : MethodId) (x0 : Addr) (x1 : Int32) : entryFrame m #[(.ref x0), (.int x1)] 3 = mkF m 0 #[.val (.ref x0), .val (.int x1), .unset] [] := by first | (simp [entryFrame, mkF, argsToLocals, Value.category]; done) | rfl
set_option maxRecDepth 65536 in
set_option maxHeartbeats 40000000 in
theorem rm_get3_1 (l : Launch) (Z : State) (a0 : Array Value) (hw : ∀ d ∈ tables_1, d.before a0 Z = true) (a : Addr) (x : Addr) (kx : ClassId) (y : Addr) (ky : ClassId) (z : Int32) (t0 : Int32) (t1 : Int32) (t2 : Int32) (u0 : Addr) (u1 : Addr) (u2 : Addr) (h0 : Heap) (n0 : Nat) (Z0 : n0 ≤ h0.size) (F_tags_a : Fld Z h0 a "com/example/crosstide/crosstide/fix/FixMessage" "tags" "[I" (.ref x)) (F_values_a : Fld Z h0 a "com/example/crosstide/crosstide/fix/FixMessage" "values" "[Ljava/lang/String;" (.ref y)) (V_x : Arv Z h0 x kx .int (3 : Int32) [(.int t0), (.int t1), (.int t2)] (.int (0 : Int32))) (V_y : Arv Z h0 y ky (.object "java/lang/String") (3 : Int32) [(.ref u0), (.ref u1), (.ref u2)] .null) (hk0 : ¬ t0 = z) (hk1 : t1 = z) :
    Ct l Z (⟨"com/example/crosstide/crosstide/fix/FixMessage", "get", "(I)Ljava/lang/String;"⟩ : MethodName) prog_57_method_3_code 3 (some (.object "java/lang/String")) [] ({ frames := 0, cells := 0, slots := 0, locals := 0 } : Room) #[(.ref a), (.int z)] h0 (Q_get3_1 Z a x kx y ky z t0 t1 t2 u0 u1 u2 h0 n0) := by
  refine own_body (plainFor_of_name pn_2) (fun m => ef_get3_1 m a z) ?_
  intro p e s m below meth c T0 hx hby hml hZ hown hnm hret hlk X0 e0
  have N0 := Fr.nil n0
  refine g_iconst X0 hx (r := (0 : Int32)) (hb hby d_prog_57_m_3_0) rfl rfl ?_
  refine g_istoreN X0 hx (Ls' := #[.val (.ref a), .val (.int z), .val (.int (0 : Int32))]) (hb hby d_prog_57_m_3_1) rfl rfl ?_
  refine g_iloadN X0 hx (hb hby d_prog_57_m_3_2) rfl rfl ?_
  refine g_aloadN X0 hx (hb hby d_prog_57_m_3_3) rfl rfl rfl ?_
  refine g_getF X0 hx hZ hown (host := "") (Or.inl (hw _ (List.mem_of_getElem? (i := 39) rfl))) Via.refl e0 F_tags_a (hb hby d_prog_57_m_3_4) rfl fun T1 X1 e1 => ?_
  refine g_len X1 hx hZ e1 V_x (hb hby d_prog_57_m_3_7) rfl ?_
  refine g_icmpN X1 hx (hb hby d_prog_57_m_3_8) rfl (XT.ii_ge_f (by decide : (0 : Int32) < (3 : Int32))) ?_
  refine g_aloadN X1 hx (hb hby d_prog_57_m_3_11) rfl rfl rfl ?_
  refine g_getF X1 hx hZ hown (host := "") (Or.inl (hw _ (List.mem_of_getElem? (i := 39) rfl))) Via.refl e1 F_tags_a (hb hby d_prog_57_m_3_12) rfl fun T2 X2 e2 => ?_
  refine g_iloadN X2 hx (hb hby d_prog_57_m_3_15) rfl rfl ?_
  refine g_iaload X2 hx hZ e2 V_x (v := (.int t0)) ⟨by decide, by decide⟩ rfl (hb hby d_prog_57_m_3_16) rfl ?_
  refine g_iloadN X2 hx (hb hby d_prog_57_m_3_17) rfl rfl ?_
  have hc18 : ¬ t0 = z := hk0
  refine g_icmpY X2 hx (q := 28) (hb hby d_prog_57_m_3_18) (XT.ii_ne_t hc18) (by decide) (by decide) ?_
  refine g_iinc X2 hx (r := (1 : Int32)) (Ls' := #[.val (.ref a), .val (.int z), .val (.int (1 : Int32))]) (hb hby d_prog_57_m_3_28) rfl rfl rfl rfl ?_
  refine g_goto X2 hx (q := 2) (hb hby d_prog_57_m_3_31) (by decide) (by decide) ?_
  refine g_iloadN X2 hx (hb hby d_prog_57_m_3_2) rfl rfl ?_
  refine g_aloadN X2 hx (hb hby d_prog_57_m_3_3) rfl rfl rfl ?_
  refine g_getF X2 hx hZ hown (host := "") (Or.inl (hw _ (List.mem_of_getElem? (i := 39) rfl))) Via.refl e2 F_tags_a (hb hby d_prog_57_m_3_4) rfl fun T3 X3 e3 => ?_
  refine g_len X3 hx hZ e3 V_x (hb hby d_prog_57_m_3_7) rfl ?_
  refine g_icmpN X3 hx (hb hby d_prog_57_m_3_8) rfl (XT.ii_ge_f (by decide : (1 : Int32) < (3 : Int32))) ?_
  refine g_aloadN X3 hx (hb hby d_prog_57_m_3_11) rfl rfl rfl ?_
  refine g_getF X3 hx hZ hown (host := "") (Or.inl (hw _ (List.mem_of_getElem? (i := 39) rfl))) Via.refl e3 F_tags_a (hb hby d_prog_57_m_3_12) rfl fun T4 X4 e4 => ?_
  refine g_iloadN X4 hx (hb hby d_prog_57_m_3_15) rfl rfl ?_
  refine g_iaload X4 hx hZ e4 V_x (v := (.int t1)) ⟨by decide, by decide⟩ rfl (hb hby d_prog_57_m_3_16) rfl ?_
  refine g_iloadN X4 hx (hb hby d_prog_57_m_3_17) rfl rfl ?_
  have hc18_2 : t1 = z := hk1
  refine g_icmpN X4 hx (hb hby d_prog_57_m_3_18) rfl (XT.ii_ne_f hc18_2) ?_
  refine g_aloadN X4 hx (hb hby d_prog_57_m_3_21) rfl rfl rfl ?_
  refine g_getF X4 hx hZ hown (host := "") (Or.inl (hw _ (List.mem_of_getElem? (i := 41) rfl))) Via.refl e4 F_values_a (hb hby d_prog_57_m_3_22) rfl fun T5 X5 e5 => ?_
  refine g_iloadN X5 hx (hb hby d_prog_57_m_3_25) rfl rfl ?_
  refine g_aaload X5 hx hZ e5 V_y rfl (v := (.ref u1)) ⟨by decide, by decide⟩ rfl (hb hby d_prog_57_m_3_26) rfl ?_
  exact g_retR X5 hx hret hlk rfl rfl rfl (hb hby d_prog_57_m_3_27) (by decide) (by decide) (by rw [e5]; exact ⟨rfl, N0, rfl⟩)
def Q_get3_2 (Z : State) (a : Addr) (x : Addr) (kx : ClassId) (y : Addr) (ky : ClassId) (z : Int32) (t0 : Int32) (t1 : Int32) (t2 : Int32) (u0 : Addr) (u1 : Addr) (u2 : Addr) (h0 : Heap) (n0 : Nat) (v : Option Value) (h : Heap) (L : List Loc) : Prop := v = some (.ref u2) ∧ Fr n0 L ∧ h = h0
theorem ef_get3_2 (m : MethodId) (x0 : Addr) (x1 : Int32) : entryFrame m #[(.ref x0), (.int x1)] 3 = mkF m 0 #[.val (.ref x0), .val (.int x1), .unset] [] := by first | (simp [entryFrame, mkF, argsToLocals, Value.category]; done) | rfl
set_option maxRecDepth 65536 in
set_option maxHeartbeats 40000000 in
theorem rm_get3_2 (l : Launch) (Z : State) (a0 : Array Value) (hw : ∀ d ∈ tables_1, d.before a0 Z = true) (a : Addr) (x : Addr) (kx : ClassId) (y : Addr) (ky : ClassId) (z : Int32) (t0 : Int32) (t1 : Int32) (t2 : Int32) (u0 : Addr) (u1 : Addr) (u2 : Addr) (h0 : Heap) (n0 : Nat) (Z0 : n0 ≤ h0.size) (F_tags_a : Fld Z h0 a "com/example/crosstide/crosstide/fix/FixMessage" "tags" "[I" (.ref x)) (F_values_a : Fld Z h0 a "com/example/crosstide/crosstide/fix/FixMessage" "values" "[Ljava/lang/String;" (.ref y)) (V_x : Arv Z h0 x kx .int (3 : Int32) [(.int t0), (.int t1), (.int t2)] (.int (0 : Int32))) (V_y : Arv Z h0 y ky (.object "java/lang/String") (3 : Int32) [(.ref u0), (.ref u1), (.ref u2)] .null) (hk0 : ¬ t0 = z) (hk1 : ¬ t1 = z) (hk2 : t2 = z) :
    Ct l Z (⟨"com/example/crosstide/crosstide/fix/FixMessage", "get", "(I)Ljava/lang/String;"⟩ : MethodName) prog_57_method_3_code 3 (some (.object "java/lang/String")) [] ({ frames := 0, cells := 0, slots := 0, locals := 0 } : Room) #[(.ref a), (.int z)] h0 (Q_get3_2 Z a x kx y ky z t0 t1 t2 u0 u1 u2 h0 n0) := by
  refine own_body (plainFor_of_name pn_2) (fun m => ef_get3_2 m a z) ?_
  intro p e s m below meth c T0 hx hby hml hZ hown hnm hret hlk X0 e0
  have N0 := Fr.nil n0
  refine g_iconst X0 hx (r := (0 : Int32)) (hb hby d_prog_57_m_3_0) rfl rfl ?_
  refine g_istoreN X0 hx (Ls' := #[.val (.ref a), .val (.int z), .val (.int (0 : Int32))]) (hb hby d_prog_57_m_3_1) rfl rfl ?_
  refine g_iloadN X0 hx (hb hby d_prog_57_m_3_2) rfl rfl ?_
  refine g_aloadN X0 hx (hb hby d_prog_57_m_3_3) rfl rfl rfl ?_
  refine g_getF X0 hx hZ hown (host := "") (Or.inl (hw _ (List.mem_of_getElem? (i := 39) rfl))) Via.refl e0 F_tags_a (hb hby d_prog_57_m_3_4) rfl fun T1 X1 e1 => ?_
  refine g_len X1 hx hZ e1 V_x (hb hby d_prog_57_m_3_7) rfl ?_
  refine g_icmpN X1 hx (hb hby d_prog_57_m_3_8) rfl (XT.ii_ge_f (by decide : (0 : Int32) < (3 : Int32))) ?_
  refine g_aloadN X1 hx (hb hby d_prog_57_m_3_11) rfl rfl rfl ?_
  refine g_getF X1 hx hZ hown (host := "") (Or.inl (hw _ (List.mem_of_getElem? (i := 39) rfl))) Via.refl e1 F_tags_a (hb hby d_prog_57_m_3_12) rfl fun T2 X2 e2 => ?_
  refine g_iloadN X2 hx (hb hby d_prog_57_m_3_15) rfl rfl ?_
  refine g_iaload X2 hx hZ e2 V_x (v := (.int t0)) ⟨by decide, by decide⟩ rfl (hb hby d_prog_57_m_3_16) rfl ?_
  refine g_iloadN X2 hx (hb hby d_prog_57_m_3_17) rfl rfl ?_
  have hc18 : ¬ t0 = z := hk0
  refine g_icmpY X2 hx (q := 28) (hb hby d_prog_57_m_3_18) (XT.ii_ne_t hc18) (by decide) (by decide) ?_
  refine g_iinc X2 hx (r := (1 : Int32)) (Ls' := #[.val (.ref a), .val (.int z), .val (.int (1 : Int32))]) (hb hby d_prog_57_m_3_28) rfl rfl rfl rfl ?_
  refine g_goto X2 hx (q := 2) (hb hby d_prog_57_m_3_31) (by decide) (by decide) ?_
  refine g_iloadN X2 hx (hb hby d_prog_57_m_3_2) rfl rfl ?_
  refine g_aloadN X2 hx (hb hby d_prog_57_m_3_3) rfl rfl rfl ?_
  refine g_getF X2 hx hZ hown (host := "") (Or.inl (hw _ (List.mem_of_getElem? (i := 39) rfl))) Via.refl e2 F_tags_a (hb hby d_prog_57_m_3_4) rfl fun T3 X3 e3 => ?_
  refine g_len X3 hx hZ e3 V_x (hb hby d_prog_57_m_3_7) rfl ?_
  refine g_icmpN X3 hx (hb hby d_prog_57_m_3_8) rfl (XT.ii_ge_f (by decide : (1 : Int32) < (3 : Int32))) ?_
  refine g_aloadN X3 hx (hb hby d_prog_57_m_3_11) rfl rfl rfl ?_
  refine g_getF X3 hx hZ hown (host := "") (Or.inl (hw _ (List.mem_of_getElem? (i := 39) rfl))) Via.refl e3 F_tags_a (hb hby d_prog_57_m_3_12) rfl fun T4 X4 e4 => ?_
  refine g_iloadN X4 hx (hb hby d_prog_57_m_3_15) rfl rfl ?_
  refine g_iaload X4 hx hZ e4 V_x (v := (.int t1)) ⟨by decide, by decide⟩ rfl (hb hby d_prog_57_m_3_16) rfl ?_
  refine g_iloadN X4 hx (hb hby d_prog_57_m_3_17) rfl rfl ?_
  have hc18_2 : ¬ t1 = z := hk1
  refine g_icmpY X4 hx (q := 28) (hb hby d_prog_57_m_3_18) (XT.ii_ne_t hc18_2) (by decide) (by decide) ?_
  refine g_iinc X4 hx (r := (2 : Int32)) (Ls' := #[.val (.ref a), .val (.int z), .val (.int (2 : Int32))]) (hb hby d_prog_57_m_3_28) rfl rfl rfl rfl ?_
  refine g_goto X4 hx (q := 2) (hb hby d_prog_57_m_3_31) (by decide) (by decide) ?_
  refine g_iloadN X4 hx (hb hby d_prog_57_m_3_2) rfl rfl ?_
  refine g_aloadN X4 hx (hb hby d_prog_57_m_3_3) rfl rfl rfl ?_
  refine g_getF X4 hx hZ hown (host := "") (Or.inl (hw _ (List.mem_of_getElem? (i := 39) rfl))) Via.refl e4 F_tags_a (hb hby d_prog_57_m_3_4) rfl fun T5 X5 e5 => ?_
  refine g_len X5 hx hZ e5 V_x (hb hby d_prog_57_m_3_7) rfl ?_
  refine g_icmpN X5 hx (hb hby d_prog_57_m_3_8) rfl (XT.ii_ge_f (by decide : (2 : Int32) < (3 : Int32))) ?_
  refine g_aloadN X5 hx (hb hby d_prog_57_m_3_11) rfl rfl rfl ?_
  refine g_getF X5 hx hZ hown (host := "") (Or.inl (hw _ (List.mem_of_getElem? (i := 39) rfl))) Via.refl e5 F_tags_a (hb hby d_prog_57_m_3_12) rfl fun T6 X6 e6 => ?_
  refine g_iloadN X6 hx (hb hby d_prog_57_m_3_15) rfl rfl ?_
  refine g_iaload X6 hx hZ e6 V_x (v := (.int t2)) ⟨by decide, by decide⟩ rfl (hb hby d_prog_57_m_3_16) rfl ?_
  refine g_iloadN X6 hx (hb hby d_prog_57_m_3_17) rfl rfl ?_
  have hc18_3 : t2 = z := hk2
  refine g_icmpN X6 hx (hb hby d_prog_57_m_3_18) rfl (XT.ii_ne_f hc18_3) ?_
  refine g_aloadN X6 hx (hb hby d_prog_57_m_3_21) rfl rfl rfl ?_
  refine g_getF X6 hx hZ hown (host := "") (Or.inl (hw _ (List.mem_of_getElem? (i := 41) rfl))) Via.refl e6 F_values_a (hb hby d_prog_57_m_3_22) rfl fun T7 X7 e7 => ?_
  refine g_iloadN X7 hx (hb hby d_prog_57_m_3_25) rfl rfl ?_
  refine g_aaload X7 hx hZ e7 V_y rfl (v := (.ref u2)) ⟨by decide, by decide⟩ rfl (hb hby d_prog_57_m_3_26) rfl ?_
  exact g_retR X7 hx hret hlk rfl rfl rfl (hb hby d_prog_57_m_3_27) (by decide) (by decide) (by rw [e7]; exact ⟨rfl, N0, rfl⟩)
def Q_get3_x (Z : State) (a : Addr) (x : Addr) (kx : ClassId) (y : Addr) (ky : ClassId) (z : Int32) (t0 : Int32) (t1 : Int32) (t2 : Int32) (u0 : Addr) (u1 : Addr) (u2 : Addr) (h0 : Heap) (n0 : Nat) (v : Option Value) (h : Heap) (L : List Loc) : Prop := v = some .null ∧ Fr n0 L ∧ h = h0
theorem ef_get3_x (m : MethodId) (x0 : Addr) (x1 : Int32) : entryFrame m #[(.ref x0), (.int x1)] 3 = mkF m 0 #[.val (.ref x0), .val (.int x1), .unset] [] := by first | (simp [entryFrame, mkF, argsToLocals, Value.category]; done) | rfl
set_option maxRecDepth 65536 in
set_option maxHeartbeats 40000000 in
theorem rm_get3_x (l : Launch) (Z : State) (a0 : Array Value) (hw : ∀ d ∈ tables_1, d.before a0 Z = true) (a : Addr) (x : Addr) (kx : ClassId) (y : Addr) (ky : ClassId) (z : Int32) (t0 : Int32) (t1 : Int32) (t2 : Int32) (u0 : Addr) (u1 : Addr) (u2 : Addr) (h0 : Heap) (n0 : Nat) (Z0 : n0 ≤ h0.size) (F_tags_a : Fld Z h0 a "com/example/crosstide/crosstide/fix/FixMessage" "tags" "[I" (.ref x)) (F_values_a : Fld Z h0 a "com/example/crosstide/crosstide/fix/FixMessage" "values" "[Ljava/lang/String;" (.ref y)) (V_x : Arv Z h0 x kx .int (3 : Int32) [(.int t0), (.int t1), (.int t2)] (.int (0 : Int32))) (V_y : Arv Z h0 y ky (.object "java/lang/String") (3 : Int32) [(.ref u0), (.ref u1), (.ref u2)] .null) (hk0 : ¬ t0 = z) (hk1 : ¬ t1 = z) (hk2 : ¬ t2 = z) :
    Ct l Z (⟨"com/example/crosstide/crosstide/fix/FixMessage", "get", "(I)Ljava/lang/String;"⟩ : MethodName) prog_57_method_3_code 3 (some (.object "java/lang/String")) [] ({ frames := 0, cells := 0, slots := 0, locals := 0 } : Room) #[(.ref a), (.int z)] h0 (Q_get3_x Z a x kx y ky z t0 t1 t2 u0 u1 u2 h0 n0) := by
  refine own_body (plainFor_of_name pn_2) (fun m => ef_get3_x m a z) ?_
  intro p e s m below meth c T0 hx hby hml hZ hown hnm hret hlk X0 e0
  have N0 := Fr.nil n0
  refine g_iconst X0 hx (r := (0 : Int32)) (hb hby d_prog_57_m_3_0) rfl rfl ?_
  refine g_istoreN X0 hx (Ls' := #[.val (.ref a), .val (.int z), .val (.int (0 : Int32))]) (hb hby d_prog_57_m_3_1) rfl rfl ?_
  refine g_iloadN X0 hx (hb hby d_prog_57_m_3_2) rfl rfl ?_
  refine g_aloadN X0 hx (hb hby d_prog_57_m_3_3) rfl rfl rfl ?_
  refine g_getF X0 hx hZ hown (host := "") (Or.inl (hw _ (List.mem_of_getElem? (i := 39) rfl))) Via.refl e0 F_tags_a (hb hby d_prog_57_m_3_4) rfl fun T1 X1 e1 => ?_
  refine g_len X1 hx hZ e1 V_x (hb hby d_prog_57_m_3_7) rfl ?_
  refine g_icmpN X1 hx (hb hby d_prog_57_m_3_8) rfl (XT.ii_ge_f (by decide : (0 : Int32) < (3 : Int32))) ?_
  refine g_aloadN X1 hx (hb hby d_prog_57_m_3_11) rfl rfl rfl ?_
  refine g_getF X1 hx hZ hown (host := "") (Or.inl (hw _ (List.mem_of_getElem? (i := 39) rfl))) Via.refl e1 F_tags_a (hb hby d_prog_57_m_3_12) rfl fun T2 X2 e2 => ?_
  refine g_iloadN X2 hx (hb hby d_prog_57_m_3_15) rfl rfl ?_
  refine g_iaload X2 hx hZ e2 V_x (v := (.int t0)) ⟨by decide, by decide⟩ rfl (hb hby d_prog_57_m_3_16) rfl ?_
  refine g_iloadN X2 hx (hb hby d_prog_57_m_3_17) rfl rfl ?_
  have hc18 : ¬ t0 = z := hk0
  refine g_icmpY X2 hx (q := 28) (hb hby d_prog_57_m_3_18) (XT.ii_ne_t hc18) (by decide) (by decide) ?_
  refine g_iinc X2 hx (r := (1 : Int32)) (Ls' := #[.val (.ref a), .val (.int z), .val (.int (1 : Int32))]) (hb hby d_prog_57_m_3_28) rfl rfl rfl rfl ?_
  refine g_goto X2 hx (q := 2) (hb hby d_prog_57_m_3_31) (by decide) (by decide) ?_
  refine g_iloadN X2 hx (hb hby d_prog_57_m_3_2) rfl rfl ?_
  refine g_aloadN X2 hx (hb hby d_prog_57_m_3_3) rfl rfl rfl ?_
  refine g_getF X2 hx hZ hown (host := "") (Or.inl (hw _ (List.mem_of_getElem? (i := 39) rfl))) Via.refl e2 F_tags_a (hb hby d_prog_57_m_3_4) rfl fun T3 X3 e3 => ?_
  refine g_len X3 hx hZ e3 V_x (hb hby d_prog_57_m_3_7) rfl ?_
  refine g_icmpN X3 hx (hb hby d_prog_57_m_3_8) rfl (XT.ii_ge_f (by decide : (1 : Int32) < (3 : Int32))) ?_
  refine g_aloadN X3 hx (hb hby d_prog_57_m_3_11) rfl rfl rfl ?_
  refine g_getF X3 hx hZ hown (host := "") (Or.inl (hw _ (List.mem_of_getElem? (i := 39) rfl))) Via.refl e3 F_tags_a (hb hby d_prog_57_m_3_12) rfl fun T4 X4 e4 => ?_
  refine g_iloadN X4 hx (hb hby d_prog_57_m_3_15) rfl rfl ?_
  refine g_iaload X4 hx hZ e4 V_x (v := (.int t1)) ⟨by decide, by decide⟩ rfl (hb hby d_prog_57_m_3_16) rfl ?_
  refine g_iloadN X4 hx (hb hby d_prog_57_m_3_17) rfl rfl ?_
  have hc18_2 : ¬ t1 = z := hk1
  refine g_icmpY X4 hx (q := 28) (hb hby d_prog_57_m_3_18) (XT.ii_ne_t hc18_2) (by decide) (by decide) ?_
  refine g_iinc X4 hx (r := (2 : Int32)) (Ls' := #[.val (.ref a), .val (.int z), .val (.int (2 : Int32))]) (hb hby d_prog_57_m_3_28) rfl rfl rfl rfl ?_
  refine g_goto X4 hx (q := 2) (hb hby d_prog_57_m_3_31) (by decide) (by decide) ?_
  refine g_iloadN X4 hx (hb hby d_prog_57_m_3_2) rfl rfl ?_
  refine g_aloadN X4 hx (hb hby d_prog_57_m_3_3) rfl rfl rfl ?_
  refine g_getF X4 hx hZ hown (host := "") (Or.inl (hw _ (List.mem_of_getElem? (i := 39) rfl))) Via.refl e4 F_tags_a (hb hby d_prog_57_m_3_4) rfl fun T5 X5 e5 => ?_
  refine g_len X5 hx hZ e5 V_x (hb hby d_prog_57_m_3_7) rfl ?_
  refine g_icmpN X5 hx (hb hby d_prog_57_m_3_8) rfl (XT.ii_ge_f (by decide : (2 : Int32) < (3 : Int32))) ?_
  refine g_aloadN X5 hx (hb hby d_prog_57_m_3_11) rfl rfl rfl ?_
  refine g_getF X5 hx hZ hown (host := "") (Or.inl (hw _ (List.mem_of_getElem? (i := 39) rfl))) Via.refl e5 F_tags_a (hb hby d_prog_57_m_3_12) rfl fun T6 X6 e6 => ?_
  refine g_iloadN X6 hx (hb hby d_prog_57_m_3_15) rfl rfl ?_
  refine g_iaload X6 hx hZ e6 V_x (v := (.int t2)) ⟨by decide, by decide⟩ rfl (hb hby d_prog_57_m_3_16) rfl ?_
  refine g_iloadN X6 hx (hb hby d_prog_57_m_3_17) rfl rfl ?_
  have hc18_3 : ¬ t2 = z := hk2
  refine g_icmpY X6 hx (q := 28) (hb hby d_prog_57_m_3_18) (XT.ii_ne_t hc18_3) (by decide) (by decide) ?_
  refine g_iinc X6 hx (r := (3 : Int32)) (Ls' := #[.val (.ref a), .val (.int z), .val (.int (3 : Int32))]) (hb hby d_prog_57_m_3_28) rfl rfl rfl rfl ?_
  refine g_goto X6 hx (q := 2) (hb hby d_prog_57_m_3_31) (by decide) (by decide) ?_
  refine g_iloadN X6 hx (hb hby d_prog_57_m_3_2) rfl rfl ?_
  refine g_aloadN X6 hx (hb hby d_prog_57_m_3_3) rfl rfl rfl ?_
  refine g_getF X6 hx hZ hown (host := "") (Or.inl (hw _ (List.mem_of_getElem? (i := 39) rfl))) Via.refl e6 F_tags_a (hb hby d_prog_57_m_3_4) rfl fun T7 X7 e7 => ?_
  refine g_len X7 hx hZ e7 V_x (hb hby d_prog_57_m_3_7) rfl ?_
  refine g_icmpY X7 hx (q := 34) (hb hby d_prog_57_m_3_8) (XT.ii_ge_t (by decide : ¬ (3 : Int32) < (3 : Int32))) (by decide) (by decide) ?_
  refine g_aconst_null X7 hx (hb hby d_prog_57_m_3_34) rfl  ?_
  exact g_retR X7 hx hret hlk rfl rfl rfl (hb hby d_prog_57_m_3_35) (by decide) (by decide) (by rw [e7]; exact ⟨rfl, N0, rfl⟩)
def Q_law (Z : State) (p0 : Int32) (p1 : Int32) (p2 : Int32) (p3 : Int32) (p4 : Int32) (cs : Int32) (h0 : Heap) (n0 : Nat) (v : Option Value) (h : Heap) (L : List Loc) : Prop := v = some (.int 1) ∧ Fr n0 L
theorem ef_law (m : MethodId) (x0 : Int32) (x1 : Int32) (x2 : Int32) (x3 : Int32) (x4 : Int32) : entryFrame m #[(.int x0), (.int x1), (.int x2), (.int x3), (.int x4)] maxLocals = mkF m 0 #[.val (.int x0), .val (.int x1), .val (.int x2), .val (.int x3), .val (.int x4), .unset, .unset, .unset, .unset, .unset, .unset, .unset, .unset, .unset, .unset, .unset, .unset] [] := by first | (simp [entryFrame, mkF, argsToLocals, Value.category, maxLocals]; done) | rfl
set_option maxRecDepth 65536 in
set_option maxHeartbeats 40000000 in
theorem rm_law (l : Launch) (Z : State) (a0 : Array Value) (hw : ∀ d ∈ tables_1, d.before a0 Z = true) (ws : List Jvm.Cond) (p0 : Int32) (p1 : Int32) (p2 : Int32) (p3 : Int32) (p4 : Int32) (cs : Int32) (h0 : Heap) (n0 : Nat) (Z0 : n0 ≤ h0.size) (old0 : Old Z n0 h0) (S0_COMPACT_STRINGS : Sta Z Z.heap "java/lang/String" "COMPACT_STRINGS" "Z" (.int cs)) (hcs : ¬ cs = (0 : Int32)) :
    Ct l Z x code maxLocals ret ws room_1 #[(.int p0), (.int p1), (.int p2), (.int p3), (.int p4)] h0 (Q_law Z p0 p1 p2 p3 p4 cs h0 n0) := by
  refine own_body (plainFor_of_name pn_3) (fun m => ef_law m p0 p1 p2 p3 p4) ?_
  intro p e s m below meth c T0 hx hby hml hZ hown hnm hret hlk X0 e0
  have N0 := Fr.nil n0
  have J42 : ∀ (t0 : Int32) (t1 : Int32) (t2 : Int32), Ga p e below s (Q_law Z p0 p1 p2 p3 p4 cs h0 n0) room_1.cells room_1.slots T0 m 42 #[.val (.int p0), .val (.int p1), .val (.int p2), .val (.int p3), .val (.int p4), .val (.int t0), .val (.int t1), .val (.int t2), .unset, .unset, .unset, .unset, .unset, .unset, .unset, .unset, .unset] [] := by
    intro t0 t1 t2
    refine g_new X0 hx hZ hown (hw _ (List.mem_of_getElem? (i := 0) rfl)) (hw _ (List.mem_of_getElem? (i := 1) rfl)) (hw _ (List.mem_of_getElem? (i := 2) rfl)) e0 (hb hby at_42) rfl (by decide) (by decide) fun T1 h1 b1 X1 e1 q1 E1 A1 D1 => ?_
    have g_b1 : n0 ≤ b1 := Nat.le_trans Z0 (Nat.le_of_eq q1.symm)
    have Z1 : n0 ≤ h1.size := Nat.le_trans Z0 E1.1
    have F1_coder : Fld Z h1 b1 "java/lang/String" "coder" "B" (.int (0 : Int32)) := D1 (Or.inr (hw _ (List.mem_of_getElem? (i := 27) rfl))) (ty := .byte) (by decide)
    have F1_value : Fld Z h1 b1 "java/lang/String" "value" "[B" .null := D1 (Or.inr (hw _ (List.mem_of_getElem? (i := 29) rfl))) (ty := (.array .byte)) (by decide)
    refine g_dup X1 hx (hb hby at_45) rfl rfl ?_
    refine g_iconst X1 hx (r := (1 : Int32)) (hb hby at_46) rfl rfl ?_
    refine g_newarray X1 hx hZ (aty := .char) (hw _ (List.mem_of_getElem? (i := 3) rfl)) e1 (by decide) 1 (by decide) (by decide) (by decide) (by decide) (ad := "[C") (by decide) (hb hby at_47) rfl fun T2 h2 b2 ka2 X2 e2 q2 E2 A2 V2 => ?_
    have ne_b1_b2 : b1 ≠ b2 := own_ne A1.lt q2
    have g_b2 : n0 ≤ b2 := Nat.le_trans Z1 (Nat.le_of_eq q2.symm)
    have Z2 : n0 ≤ h2.size := Nat.le_trans Z1 E2.1
    have Vn2 : Arv Z h2 b2 ka2 .char (1 : Int32) [(.int (0 : Int32))] (.int (0 : Int32)) := V2
    refine g_dup X2 hx (hb hby at_49) rfl rfl ?_
    refine g_iconst X2 hx (r := (0 : Int32)) (hb hby at_50) rfl rfl ?_
    refine g_iloadN X2 hx (hb hby at_51) rfl rfl ?_
    refine g_sipush X2 hx (r := (255 : Int32)) (hb hby at_52) rfl rfl ?_
    refine g_iand X2 hx (hb hby at_55) rfl rfl ?_
    refine g_i2c X2 hx (hb hby at_56) rfl (i2c_mask _) ?_
    refine g_castore X2 hx hZ e2 Vn2 ⟨by decide, by decide⟩ (Nat.le_of_ble_eq_true rfl) (hb hby at_57) rfl fun T3 h3 X3 e3 W3 V3 => ?_
    rw [own_narc] at V3
    have Vn3 : Arv Z h3 b2 ka2 .char (1 : Int32) [(.int (p0 &&& (255 : Int32)))] (.int (0 : Int32)) := V3
    have N3 := Fr.snoc X3 N0 g_b2
    have Z3 : n0 ≤ h3.size := by rw [W3.size]; exact Z2
    have f5 : Fld Z h3 b1 "java/lang/String" "value" "[B" .null := ((F1_value.ext E2).other W3 (Or.inl ne_b1_b2))
    have f6 : Fld Z h3 b1 "java/lang/String" "coder" "B" (.int (0 : Int32)) := ((F1_coder.ext E2).other W3 (Or.inl ne_b1_b2))
    have f7 : Exa Z h3 b1 "java/lang/String" := ((A1.ext E2).wr W3)
    have f8 : Old Z n0 h3 := (((old0.ext E1).ext E2).wr W3 g_b2)
    refine g_special X3 hx hZ hown rfl (hw _ (List.mem_of_getElem? (i := 4) rfl)) (hw _ (List.mem_of_getElem? (i := 5) rfl)) (hw _ (List.mem_of_getElem? (i := 2) rfl)) (hw _ (List.mem_of_getElem? (i := 6) rfl)) (by decide) (a := b1) (rm_sini_1 l Z a0 hw b1 b2 ka2 cs (p0 &&& (255 : Int32)) h3 n0 Z3 f5 f6 f7 g_b1 f8 S0_COMPACT_STRINGS hcs Vn3 (own_c255 _)) (by rw [hml]; rfl) e3 [(.ref b2)] rfl rfl (W := 1) (Nat.le_of_eq rfl) (by decide) (by decide) (by decide) (by decide) (lenOf pd_4 rfl) (hb hby at_58) rfl fun v4 T4 L4 X4 hQ4 => ?_
    obtain ⟨d_4, kd_4, rfl, Nq4, kc4, p4_0, p4_1, p4_2, p4_3, p4_4⟩ := hQ4
    have N4 := Fr.app N3 Nq4
    have ne_b1_d_4 : b1 ≠ d_4 := own_neK f7.lt p4_0
    have ne_b2_d_4 : b2 ≠ d_4 := own_neK Vn3.lt p4_0
    have g_d_4 : n0 ≤ d_4 := Nat.le_trans Z3 p4_0
    have Z4 : n0 ≤ T4.heap.size := Nat.le_trans Z3 kc4.1
    have pv4_4 : Arv Z T4.heap d_4 kd_4 .byte (1 : Int32) [(.int ((p0 &&& (255 : Int32)).toInt8.toInt32))] (.int (0 : Int32)) := p4_4
    show Ga _ _ _ _ _ _ _ _ _ _ _ [(.ref b1)]
    refine g_astore X4 hx (Ls' := #[.val (.int p0), .val (.int p1), .val (.int p2), .val (.int p3), .val (.int p4), .val (.int t0), .val (.int t1), .val (.int t2), .val (.ref b1), .unset, .unset, .unset, .unset, .unset, .unset, .unset, .unset]) (hb hby at_61) rfl rfl rfl ?_
    have f10 : Arv Z T4.heap b2 ka2 .char (1 : Int32) [(.int (p0 &&& (255 : Int32)))] (.int (0 : Int32)) := (Vn3.keep kc4 (ninS (Ne.symm ne_b1_b2) nin0))
    refine g_new X4 hx hZ hown (hw _ (List.mem_of_getElem? (i := 0) rfl)) (hw _ (List.mem_of_getElem? (i := 1) rfl)) (hw _ (List.mem_of_getElem? (i := 2) rfl)) rfl (hb hby at_63) rfl (by decide) (by decide) fun T9 h9 b9 X9 e9 q9 E9 A9 D9 => ?_
    have ne_b1_b9 : b1 ≠ b9 := own_ne p4_1.lt q9
    have ne_b2_b9 : b2 ≠ b9 := own_ne f10.lt q9
    have ne_d_4_b9 : d_4 ≠ b9 := own_ne pv4_4.lt q9
    have g_b9 : n0 ≤ b9 := Nat.le_trans Z4 (Nat.le_of_eq q9.symm)
    have Z9 : n0 ≤ h9.size := Nat.le_trans Z4 E9.1
    have F9_coder : Fld Z h9 b9 "java/lang/String" "coder" "B" (.int (0 : Int32)) := D9 (Or.inr (hw _ (List.mem_of_getElem? (i := 27) rfl))) (ty := .byte) (by decide)
    have F9_value : Fld Z h9 b9 "java/lang/String" "value" "[B" .null := D9 (Or.inr (hw _ (List.mem_of_getElem? (i := 29) rfl))) (ty := (.array .byte)) (by decide)
    refine g_dup X9 hx (hb hby at_66) rfl rfl ?_
    refine g_iconst X9 hx (r := (1 : Int32)) (hb hby at_67) rfl rfl ?_
    have f12 : Exa Z h9 b1 "java/lang/String" := (p4_1.ext E9)
    have f13 : Arv Z h9 b2 ka2 .char (1 : Int32) [(.int (p0 &&& (255 : Int32)))] (.int (0 : Int32)) := (f10.ext E9)
    have f14 : Arv Z h9 d_4 kd_4 .byte (1 : Int32) [(.int ((p0 &&& (255 : Int32)).toInt8.toInt32))] (.int (0 : Int32)) := (pv4_4.ext E9)
    refine g_newarray X9 hx hZ (aty := .char) (hw _ (List.mem_of_getElem? (i := 3) rfl)) e9 (by decide) 1 (by decide) (by decide) (by decide) (by decide) (ad := "[C") (by decide) (hb hby at_68) rfl fun T11 h11 b11 ka11 X11 e11 q11 E11 A11 V11 => ?_
    have ne_b1_b11 : b1 ≠ b11 := own_ne f12.lt q11
    have ne_b2_b11 : b2 ≠ b11 := own_ne f13.lt q11
    have ne_b9_b11 : b9 ≠ b11 := own_ne A9.lt q11
    have ne_d_4_b11 : d_4 ≠ b11 := own_ne f14.lt q11
    have g_b11 : n0 ≤ b11 := Nat.le_trans Z9 (Nat.le_of_eq q11.symm)
    have Z11 : n0 ≤ h11.size := Nat.le_trans Z9 E11.1
    have Vn11 : Arv Z h11 b11 ka11 .char (1 : Int32) [(.int (0 : Int32))] (.int (0 : Int32)) := V11
    refine g_dup X11 hx (hb hby at_70) rfl rfl ?_
    refine g_iconst X11 hx (r := (0 : Int32)) (hb hby at_71) rfl rfl ?_
    refine g_iloadN X11 hx (hb hby at_72) rfl rfl ?_
    refine g_sipush X11 hx (r := (255 : Int32)) (hb hby at_73) rfl rfl ?_
    refine g_iand X11 hx (hb hby at_76) rfl rfl ?_
    refine g_i2c X11 hx (hb hby at_77) rfl (i2c_mask _) ?_
    refine g_castore X11 hx hZ e11 Vn11 ⟨by decide, by decide⟩ (Nat.le_of_ble_eq_true rfl) (hb hby at_78) rfl fun T15 h15 X15 e15 W15 V15 => ?_
    rw [own_narc] at V15
    have Vn15 : Arv Z h15 b11 ka11 .char (1 : Int32) [(.int (p1 &&& (255 : Int32)))] (.int (0 : Int32)) := V15
    have N15 := Fr.snoc X15 N4 g_b11
    have Z15 : n0 ≤ h15.size := by rw [W15.size]; exact Z11
    have f17 : Fld Z h15 b9 "java/lang/String" "value" "[B" .null := ((F9_value.ext E11).other W15 (Or.inl ne_b9_b11))
    have f18 : Fld Z h15 b9 "java/lang/String" "coder" "B" (.int (0 : Int32)) := ((F9_coder.ext E11).other W15 (Or.inl ne_b9_b11))
    have f19 : Exa Z h15 b9 "java/lang/String" := ((A9.ext E11).wr W15)
    have f20 : Old Z n0 h15 := ((((f8.keep kc4 (allS g_b1 all0)).ext E9).ext E11).wr W15 g_b11)
    refine g_special X15 hx hZ hown rfl (hw _ (List.mem_of_getElem? (i := 4) rfl)) (hw _ (List.mem_of_getElem? (i := 5) rfl)) (hw _ (List.mem_of_getElem? (i := 2) rfl)) (hw _ (List.mem_of_getElem? (i := 6) rfl)) (by decide) (a := b9) (rm_sini_1 l Z a0 hw b9 b11 ka11 cs (p1 &&& (255 : Int32)) h15 n0 Z15 f17 f18 f19 g_b9 f20 S0_COMPACT_STRINGS hcs Vn15 (own_c255 _)) (by rw [hml]; rfl) e15 [(.ref b11)] rfl rfl (W := 1) (Nat.le_of_eq rfl) (by decide) (by decide) (by decide) (by decide) (lenOf pd_4 rfl) (hb hby at_79) rfl fun v16 T16 L16 X16 hQ16 => ?_
    obtain ⟨d_16, kd_16, rfl, Nq16, kc16, p16_0, p16_1, p16_2, p16_3, p16_4⟩ := hQ16
    have N16 := Fr.app N15 Nq16
    have f21 : Exa Z h15 b1 "java/lang/String" := ((f12.ext E11).wr W15)
    have f22 : Arv Z h15 b2 ka2 .char (1 : Int32) [(.int (p0 &&& (255 : Int32)))] (.int (0 : Int32)) := ((f13.ext E11).other W15 ne_b2_b11)
    have f23 : Arv Z h15 d_4 kd_4 .byte (1 : Int32) [(.int ((p0 &&& (255 : Int32)).toInt8.toInt32))] (.int (0 : Int32)) := ((f14.ext E11).other W15 ne_d_4_b11)
    have ne_b1_d_16 : b1 ≠ d_16 := own_neK f21.lt p16_0
    have ne_b11_d_16 : b11 ≠ d_16 := own_neK Vn15.lt p16_0
    have ne_b2_d_16 : b2 ≠ d_16 := own_neK f22.lt p16_0
    have ne_b9_d_16 : b9 ≠ d_16 := own_neK f19.lt p16_0
    have ne_d_4_d_16 : d_4 ≠ d_16 := own_neK f23.lt p16_0
    have g_d_16 : n0 ≤ d_16 := Nat.le_trans Z15 p16_0
    have Z16 : n0 ≤ T16.heap.size := Nat.le_trans Z15 kc16.1
    have pv16_4 : Arv Z T16.heap d_16 kd_16 .byte (1 : Int32) [(.int ((p1 &&& (255 : Int32)).toInt8.toInt32))] (.int (0 : Int32)) := p16_4
    show Ga _ _ _ _ _ _ _ _ _ _ _ [(.ref b9)]
    refine g_astore X16 hx (Ls' := #[.val (.int p0), .val (.int p1), .val (.int p2), .val (.int p3), .val (.int p4), .val (.int t0), .val (.int t1), .val (.int t2), .val (.ref b1), .val (.ref b9), .unset, .unset, .unset, .unset, .unset, .unset, .unset]) (hb hby at_82) rfl rfl rfl ?_
    have f25 : Exa Z T16.heap b1 "java/lang/String" := (f21.keep kc16)
    have f26 : Arv Z T16.heap b11 ka11 .char (1 : Int32) [(.int (p1 &&& (255 : Int32)))] (.int (0 : Int32)) := (Vn15.keep kc16 (ninS (Ne.symm ne_b9_b11) nin0))
    have f27 : Arv Z T16.heap b2 ka2 .char (1 : Int32) [(.int (p0 &&& (255 : Int32)))] (.int (0 : Int32)) := (f22.keep kc16 (ninS ne_b2_b9 nin0))
    have f28 : Arv Z T16.heap d_4 kd_4 .byte (1 : Int32) [(.int ((p0 &&& (255 : Int32)).toInt8.toInt32))] (.int (0 : Int32)) := (f23.keep kc16 (ninS ne_d_4_b9 nin0))
    refine g_new X16 hx hZ hown (hw _ (List.mem_of_getElem? (i := 0) rfl)) (hw _ (List.mem_of_getElem? (i := 1) rfl)) (hw _ (List.mem_of_getElem? (i := 2) rfl)) rfl (hb hby at_84) rfl (by decide) (by decide) fun T24 h24 b24 X24 e24 q24 E24 A24 D24 => ?_
    have ne_b1_b24 : b1 ≠ b24 := own_ne f25.lt q24
    have ne_b11_b24 : b11 ≠ b24 := own_ne f26.lt q24
    have ne_b2_b24 : b2 ≠ b24 := own_ne f27.lt q24
    have ne_b9_b24 : b9 ≠ b24 := own_ne p16_1.lt q24
    have ne_d_16_b24 : d_16 ≠ b24 := own_ne pv16_4.lt q24
    have ne_d_4_b24 : d_4 ≠ b24 := own_ne f28.lt q24
    have g_b24 : n0 ≤ b24 := Nat.le_trans Z16 (Nat.le_of_eq q24.symm)
    have Z24 : n0 ≤ h24.size := Nat.le_trans Z16 E24.1
    have F24_coder : Fld Z h24 b24 "java/lang/String" "coder" "B" (.int (0 : Int32)) := D24 (Or.inr (hw _ (List.mem_of_getElem? (i := 27) rfl))) (ty := .byte) (by decide)
    have F24_value : Fld Z h24 b24 "java/lang/String" "value" "[B" .null := D24 (Or.inr (hw _ (List.mem_of_getElem? (i := 29) rfl))) (ty := (.array .byte)) (by decide)
    refine g_dup X24 hx (hb hby at_87) rfl rfl ?_
    refine g_iconst X24 hx (r := (1 : Int32)) (hb hby at_88) rfl rfl ?_
    have f30 : Exa Z h24 b1 "java/lang/String" := (f25.ext E24)
    have f31 : Arv Z h24 b11 ka11 .char (1 : Int32) [(.int (p1 &&& (255 : Int32)))] (.int (0 : Int32)) := (f26.ext E24)
    have f32 : Arv Z h24 b2 ka2 .char (1 : Int32) [(.int (p0 &&& (255 : Int32)))] (.int (0 : Int32)) := (f27.ext E24)
    have f33 : Exa Z h24 b9 "java/lang/String" := (p16_1.ext E24)
    have f34 : Arv Z h24 d_16 kd_16 .byte (1 : Int32) [(.int ((p1 &&& (255 : Int32)).toInt8.toInt32))] (.int (0 : Int32)) := (pv16_4.ext E24)
    have f35 : Arv Z h24 d_4 kd_4 .byte (1 : Int32) [(.int ((p0 &&& (255 : Int32)).toInt8.toInt32))] (.int (0 : Int32)) := (f28.ext E24)
    refine g_newarray X24 hx hZ (aty := .char) (hw _ (List.mem_of_getElem? (i := 3) rfl)) e24 (by decide) 1 (by decide) (by decide) (by decide) (by decide) (ad := "[C") (by decide) (hb hby at_89) rfl fun T29 h29 b29 ka29 X29 e29 q29 E29 A29 V29 => ?_
    have ne_b1_b29 : b1 ≠ b29 := own_ne f30.lt q29
    have ne_b11_b29 : b11 ≠ b29 := own_ne f31.lt q29
    have ne_b2_b29 : b2 ≠ b29 := own_ne f32.lt q29
    have ne_b24_b29 : b24 ≠ b29 := own_ne A24.lt q29
    have ne_b9_b29 : b9 ≠ b29 := own_ne f33.lt q29
    have ne_d_16_b29 : d_16 ≠ b29 := own_ne f34.lt q29
    have ne_d_4_b29 : d_4 ≠ b29 := own_ne f35.lt q29
    have g_b29 : n0 ≤ b29 := Nat.le_trans Z24 (Nat.le_of_eq q29.symm)
    have Z29 : n0 ≤ h29.size := Nat.le_trans Z24 E29.1
    have Vn29 : Arv Z h29 b29 ka29 .char (1 : Int32) [(.int (0 : Int32))] (.int (0 : Int32)) := V29
    refine g_dup X29 hx (hb hby at_91) rfl rfl ?_
    refine g_iconst X29 hx (r := (0 : Int32)) (hb hby at_92) rfl rfl ?_
    refine g_iloadN X29 hx (hb hby at_93) rfl rfl ?_
    refine g_sipush X29 hx (r := (255 : Int32)) (hb hby at_94) rfl rfl ?_
    refine g_iand X29 hx (hb hby at_97) rfl rfl ?_
    refine g_i2c X29 hx (hb hby at_98) rfl (i2c_mask _) ?_
    refine g_castore X29 hx hZ e29 Vn29 ⟨by decide, by decide⟩ (Nat.le_of_ble_eq_true rfl) (hb hby at_99) rfl fun T36 h36 X36 e36 W36 V36 => ?_
    rw [own_narc] at V36
    have Vn36 : Arv Z h36 b29 ka29 .char (1 : Int32) [(.int (p2 &&& (255 : Int32)))] (.int (0 : Int32)) := V36
    have N36 := Fr.snoc X36 N16 g_b29
    have Z36 : n0 ≤ h36.size := by rw [W36.size]; exact Z29
    have f38 : Fld Z h36 b24 "java/lang/String" "value" "[B" .null := ((F24_value.ext E29).other W36 (Or.inl ne_b24_b29))
    have f39 : Fld Z h36 b24 "java/lang/String" "coder" "B" (.int (0 : Int32)) := ((F24_coder.ext E29).other W36 (Or.inl ne_b24_b29))
    have f40 : Exa Z h36 b24 "java/lang/String" := ((A24.ext E29).wr W36)
    have f41 : Old Z n0 h36 := ((((f20.keep kc16 (allS g_b9 all0)).ext E24).ext E29).wr W36 g_b29)
    refine g_special X36 hx hZ hown rfl (hw _ (List.mem_of_getElem? (i := 4) rfl)) (hw _ (List.mem_of_getElem? (i := 5) rfl)) (hw _ (List.mem_of_getElem? (i := 2) rfl)) (hw _ (List.mem_of_getElem? (i := 6) rfl)) (by decide) (a := b24) (rm_sini_1 l Z a0 hw b24 b29 ka29 cs (p2 &&& (255 : Int32)) h36 n0 Z36 f38 f39 f40 g_b24 f41 S0_COMPACT_STRINGS hcs Vn36 (own_c255 _)) (by rw [hml]; rfl) e36 [(.ref b29)] rfl rfl (W := 1) (Nat.le_of_eq rfl) (by decide) (by decide) (by decide) (by decide) (lenOf pd_4 rfl) (hb hby at_100) rfl fun v37 T37 L37 X37 hQ37 => ?_
    obtain ⟨d_37, kd_37, rfl, Nq37, kc37, p37_0, p37_1, p37_2, p37_3, p37_4⟩ := hQ37
    have N37 := Fr.app N36 Nq37
    have f42 : Exa Z h36 b1 "java/lang/String" := ((f30.ext E29).wr W36)
    have f43 : Arv Z h36 b11 ka11 .char (1 : Int32) [(.int (p1 &&& (255 : Int32)))] (.int (0 : Int32)) := ((f31.ext E29).other W36 ne_b11_b29)
    have f44 : Arv Z h36 b2 ka2 .char (1 : Int32) [(.int (p0 &&& (255 : Int32)))] (.int (0 : Int32)) := ((f32.ext E29).other W36 ne_b2_b29)
    have f45 : Exa Z h36 b9 "java/lang/String" := ((f33.ext E29).wr W36)
    have f46 : Arv Z h36 d_16 kd_16 .byte (1 : Int32) [(.int ((p1 &&& (255 : Int32)).toInt8.toInt32))] (.int (0 : Int32)) := ((f34.ext E29).other W36 ne_d_16_b29)
    have f47 : Arv Z h36 d_4 kd_4 .byte (1 : Int32) [(.int ((p0 &&& (255 : Int32)).toInt8.toInt32))] (.int (0 : Int32)) := ((f35.ext E29).other W36 ne_d_4_b29)
    have ne_b1_d_37 : b1 ≠ d_37 := own_neK f42.lt p37_0
    have ne_b11_d_37 : b11 ≠ d_37 := own_neK f43.lt p37_0
    have ne_b2_d_37 : b2 ≠ d_37 := own_neK f44.lt p37_0
    have ne_b24_d_37 : b24 ≠ d_37 := own_neK f40.lt p37_0
    have ne_b29_d_37 : b29 ≠ d_37 := own_neK Vn36.lt p37_0
    have ne_b9_d_37 : b9 ≠ d_37 := own_neK f45.lt p37_0
    have ne_d_16_d_37 : d_16 ≠ d_37 := own_neK f46.lt p37_0
    have ne_d_4_d_37 : d_4 ≠ d_37 := own_neK f47.lt p37_0
    have g_d_37 : n0 ≤ d_37 := Nat.le_trans Z36 p37_0
    have Z37 : n0 ≤ T37.heap.size := Nat.le_trans Z36 kc37.1
    have pv37_4 : Arv Z T37.heap d_37 kd_37 .byte (1 : Int32) [(.int ((p2 &&& (255 : Int32)).toInt8.toInt32))] (.int (0 : Int32)) := p37_4
    show Ga _ _ _ _ _ _ _ _ _ _ _ [(.ref b24)]
    refine g_astore X37 hx (Ls' := #[.val (.int p0), .val (.int p1), .val (.int p2), .val (.int p3), .val (.int p4), .val (.int t0), .val (.int t1), .val (.int t2), .val (.ref b1), .val (.ref b9), .val (.ref b24), .unset, .unset, .unset, .unset, .unset, .unset]) (hb hby at_103) rfl rfl rfl ?_
    refine g_iload X37 hx (hb hby at_105) rfl rfl ?_
    refine g_iconst X37 hx (r := (3 : Int32)) (hb hby at_107) rfl rfl ?_
    refine g_iushr X37 hx (hb hby at_108) rfl rfl ?_
    refine g_iconst X37 hx (r := (3 : Int32)) (hb hby at_109) rfl rfl ?_
    obtain ⟨v110, hv110⟩ : ∃ r, (((p4.toUInt32 >>> ((3 : Int32) &&& 31).toUInt32).toInt32) &&& (3 : Int32)) = r := ⟨_, rfl⟩
    refine g_iand X37 hx (hb hby at_110) rfl hv110 ?_
    refine g_istore X37 hx (Ls' := #[.val (.int p0), .val (.int p1), .val (.int p2), .val (.int p3), .val (.int p4), .val (.int t0), .val (.int t1), .val (.int t2), .val (.ref b1), .val (.ref b9), .val (.ref b24), .val (.int v110), .unset, .unset, .unset, .unset, .unset]) (hb hby at_111) rfl rfl ?_
    have hcs_v110 : v110 = (0 : Int32) ∨ v110 = (1 : Int32) ∨ v110 = (2 : Int32) ∨ v110 = (3 : Int32) := own_m3 hv110
    rcases hcs_v110 with rfl | rfl | rfl | rfl
    · skip
      refine g_iload X37 hx (hb hby at_113) rfl rfl ?_
      refine g_ifN X37 hx (hb hby at_115) rfl (XT.i0_ne_f (by decide : (0 : Int32) = (0 : Int32))) ?_
      refine g_iconst X37 hx (r := (0 : Int32)) (hb hby at_118) rfl rfl ?_
      have f49 : Exa Z T37.heap b1 "java/lang/String" := (f42.keep kc37)
      have f50 : Arv Z T37.heap b11 ka11 .char (1 : Int32) [(.int (p1 &&& (255 : Int32)))] (.int (0 : Int32)) := (f43.keep kc37 (ninS ne_b11_b24 nin0))
      have f51 : Arv Z T37.heap b2 ka2 .char (1 : Int32) [(.int (p0 &&& (255 : Int32)))] (.int (0 : Int32)) := (f44.keep kc37 (ninS ne_b2_b24 nin0))
      have f52 : Arv Z T37.heap b29 ka29 .char (1 : Int32) [(.int (p2 &&& (255 : Int32)))] (.int (0 : Int32)) := (Vn36.keep kc37 (ninS (Ne.symm ne_b24_b29) nin0))
      have f53 : Exa Z T37.heap b9 "java/lang/String" := (f45.keep kc37)
      have f54 : Arv Z T37.heap d_16 kd_16 .byte (1 : Int32) [(.int ((p1 &&& (255 : Int32)).toInt8.toInt32))] (.int (0 : Int32)) := (f46.keep kc37 (ninS ne_d_16_b24 nin0))
      have f55 : Arv Z T37.heap d_4 kd_4 .byte (1 : Int32) [(.int ((p0 &&& (255 : Int32)).toInt8.toInt32))] (.int (0 : Int32)) := (f47.keep kc37 (ninS ne_d_4_b24 nin0))
      refine g_newarray X37 hx hZ (aty := .int) (hw _ (List.mem_of_getElem? (i := 30) rfl)) rfl (by decide) 0 (by decide) (by decide) (by decide) (by decide) (ad := "[I") (by decide) (hb hby at_119) rfl fun T48 h48 b48 ka48 X48 e48 q48 E48 A48 V48 => ?_
      have ne_b1_b48 : b1 ≠ b48 := own_ne f49.lt q48
      have ne_b11_b48 : b11 ≠ b48 := own_ne f50.lt q48
      have ne_b2_b48 : b2 ≠ b48 := own_ne f51.lt q48
      have ne_b24_b48 : b24 ≠ b48 := own_ne p37_1.lt q48
      have ne_b29_b48 : b29 ≠ b48 := own_ne f52.lt q48
      have ne_b9_b48 : b9 ≠ b48 := own_ne f53.lt q48
      have ne_d_16_b48 : d_16 ≠ b48 := own_ne f54.lt q48
      have ne_d_37_b48 : d_37 ≠ b48 := own_ne pv37_4.lt q48
      have ne_d_4_b48 : d_4 ≠ b48 := own_ne f55.lt q48
      have g_b48 : n0 ≤ b48 := Nat.le_trans Z37 (Nat.le_of_eq q48.symm)
      have Z48 : n0 ≤ h48.size := Nat.le_trans Z37 E48.1
      have Vn48 : Arv Z h48 b48 ka48 .int (0 : Int32) [] (.int (0 : Int32)) := V48
      refine g_astore X48 hx (Ls' := #[.val (.int p0), .val (.int p1), .val (.int p2), .val (.int p3), .val (.int p4), .val (.int t0), .val (.int t1), .val (.int t2), .val (.ref b1), .val (.ref b9), .val (.ref b24), .val (.int (0 : Int32)), .val (.ref b48), .unset, .unset, .unset, .unset]) (hb hby at_121) rfl rfl rfl ?_
      refine g_iconst X48 hx (r := (0 : Int32)) (hb hby at_123) rfl rfl ?_
      have f57 : Exa Z h48 b1 "java/lang/String" := (f49.ext E48)
      have f58 : Arv Z h48 b11 ka11 .char (1 : Int32) [(.int (p1 &&& (255 : Int32)))] (.int (0 : Int32)) := (f50.ext E48)
      have f59 : Arv Z h48 b2 ka2 .char (1 : Int32) [(.int (p0 &&& (255 : Int32)))] (.int (0 : Int32)) := (f51.ext E48)
      have f60 : Exa Z h48 b24 "java/lang/String" := (p37_1.ext E48)
      have f61 : Arv Z h48 b29 ka29 .char (1 : Int32) [(.int (p2 &&& (255 : Int32)))] (.int (0 : Int32)) := (f52.ext E48)
      have f62 : Exa Z h48 b9 "java/lang/String" := (f53.ext E48)
      have f63 : Arv Z h48 d_16 kd_16 .byte (1 : Int32) [(.int ((p1 &&& (255 : Int32)).toInt8.toInt32))] (.int (0 : Int32)) := (f54.ext E48)
      have f64 : Arv Z h48 d_37 kd_37 .byte (1 : Int32) [(.int ((p2 &&& (255 : Int32)).toInt8.toInt32))] (.int (0 : Int32)) := (pv37_4.ext E48)
      have f65 : Arv Z h48 d_4 kd_4 .byte (1 : Int32) [(.int ((p0 &&& (255 : Int32)).toInt8.toInt32))] (.int (0 : Int32)) := (f55.ext E48)
      refine g_anewarray X48 hx hZ hown (hw _ (List.mem_of_getElem? (i := 0) rfl)) (hw _ (List.mem_of_getElem? (i := 31) rfl)) e48 (by decide) 0 (by decide) (by decide) (by decide) (by decide) (ad := "[Ljava/lang/String;") (by decide) (hb hby at_124) rfl fun T56 h56 b56 ka56 X56 e56 q56 E56 A56 O56 V56 => ?_
      have ne_b1_b56 : b1 ≠ b56 := own_ne f57.lt q56
      have ne_b11_b56 : b11 ≠ b56 := own_ne f58.lt q56
      have ne_b2_b56 : b2 ≠ b56 := own_ne f59.lt q56
      have ne_b24_b56 : b24 ≠ b56 := own_ne f60.lt q56
      have ne_b29_b56 : b29 ≠ b56 := own_ne f61.lt q56
      have ne_b48_b56 : b48 ≠ b56 := own_ne Vn48.lt q56
      have ne_b9_b56 : b9 ≠ b56 := own_ne f62.lt q56
      have ne_d_16_b56 : d_16 ≠ b56 := own_ne f63.lt q56
      have ne_d_37_b56 : d_37 ≠ b56 := own_ne f64.lt q56
      have ne_d_4_b56 : d_4 ≠ b56 := own_ne f65.lt q56
      have g_b56 : n0 ≤ b56 := Nat.le_trans Z48 (Nat.le_of_eq q56.symm)
      have Z56 : n0 ≤ h56.size := Nat.le_trans Z48 E56.1
      have Vn56 : Arv Z h56 b56 ka56 (.object "java/lang/String") (0 : Int32) [] .null := V56
      refine g_astore X56 hx (Ls' := #[.val (.int p0), .val (.int p1), .val (.int p2), .val (.int p3), .val (.int p4), .val (.int t0), .val (.int t1), .val (.int t2), .val (.ref b1), .val (.ref b9), .val (.ref b24), .val (.int (0 : Int32)), .val (.ref b48), .val (.ref b56), .unset, .unset, .unset]) (hb hby at_127) rfl rfl rfl ?_
      refine g_goto X56 hx (q := 243) (hb hby at_129) (by decide) (by decide) ?_
      have f67 : Exa Z h56 b1 "java/lang/String" := (f57.ext E56)
      have f68 : Arv Z h56 b11 ka11 .char (1 : Int32) [(.int (p1 &&& (255 : Int32)))] (.int (0 : Int32)) := (f58.ext E56)
      have f69 : Arv Z h56 b2 ka2 .char (1 : Int32) [(.int (p0 &&& (255 : Int32)))] (.int (0 : Int32)) := (f59.ext E56)
      have f70 : Exa Z h56 b24 "java/lang/String" := (f60.ext E56)
      have f71 : Arv Z h56 b29 ka29 .char (1 : Int32) [(.int (p2 &&& (255 : Int32)))] (.int (0 : Int32)) := (f61.ext E56)
      have f72 : Arv Z h56 b48 ka48 .int (0 : Int32) [] (.int (0 : Int32)) := (Vn48.ext E56)
      have f73 : Exa Z h56 b9 "java/lang/String" := (f62.ext E56)
      have f74 : Arv Z h56 d_16 kd_16 .byte (1 : Int32) [(.int ((p1 &&& (255 : Int32)).toInt8.toInt32))] (.int (0 : Int32)) := (f63.ext E56)
      have f75 : Arv Z h56 d_37 kd_37 .byte (1 : Int32) [(.int ((p2 &&& (255 : Int32)).toInt8.toInt32))] (.int (0 : Int32)) := (f64.ext E56)
      have f76 : Arv Z h56 d_4 kd_4 .byte (1 : Int32) [(.int ((p0 &&& (255 : Int32)).toInt8.toInt32))] (.int (0 : Int32)) := (f65.ext E56)
      refine g_new X56 hx hZ hown (hw _ (List.mem_of_getElem? (i := 32) rfl)) (hw _ (List.mem_of_getElem? (i := 33) rfl)) (hw _ (List.mem_of_getElem? (i := 34) rfl)) e56 (hb hby at_243) rfl (by decide) (by decide) fun T66 h66 b66 X66 e66 q66 E66 A66 D66 => ?_
      have ne_b1_b66 : b1 ≠ b66 := own_ne f67.lt q66
      have ne_b11_b66 : b11 ≠ b66 := own_ne f68.lt q66
      have ne_b2_b66 : b2 ≠ b66 := own_ne f69.lt q66
      have ne_b24_b66 : b24 ≠ b66 := own_ne f70.lt q66
      have ne_b29_b66 : b29 ≠ b66 := own_ne f71.lt q66
      have ne_b48_b66 : b48 ≠ b66 := own_ne f72.lt q66
      have ne_b56_b66 : b56 ≠ b66 := own_ne Vn56.lt q66
      have ne_b9_b66 : b9 ≠ b66 := own_ne f73.lt q66
      have ne_d_16_b66 : d_16 ≠ b66 := own_ne f74.lt q66
      have ne_d_37_b66 : d_37 ≠ b66 := own_ne f75.lt q66
      have ne_d_4_b66 : d_4 ≠ b66 := own_ne f76.lt q66
      have g_b66 : n0 ≤ b66 := Nat.le_trans Z56 (Nat.le_of_eq q66.symm)
      have Z66 : n0 ≤ h66.size := Nat.le_trans Z56 E66.1
      have F66_tags : Fld Z h66 b66 "com/example/crosstide/crosstide/fix/FixMessage" "tags" "[I" .null := D66 (Or.inr (hw _ (List.mem_of_getElem? (i := 40) rfl))) (ty := (.array .int)) (by decide)
      have F66_values : Fld Z h66 b66 "com/example/crosstide/crosstide/fix/FixMessage" "values" "[Ljava/lang/String;" .null := D66 (Or.inr (hw _ (List.mem_of_getElem? (i := 42) rfl))) (ty := (.array (.object "java/lang/String"))) (by decide)
      refine g_dup X66 hx (hb hby at_246) rfl rfl ?_
      refine g_aload X66 hx (hb hby at_247) rfl rfl rfl ?_
      refine g_aload X66 hx (hb hby at_249) rfl rfl rfl ?_
      refine g_special X66 hx hZ hown rfl (hw _ (List.mem_of_getElem? (i := 35) rfl)) (hw _ (List.mem_of_getElem? (i := 36) rfl)) (hw _ (List.mem_of_getElem? (i := 34) rfl)) (hw _ (List.mem_of_getElem? (i := 37) rfl)) (by decide) (a := b66) (rm_fini l Z a0 hw b66 b48 b56 h66 n0 Z66 F66_tags F66_values A66 g_b66) (by rw [hml]; rfl) e66 [(.ref b48), (.ref b56)] rfl rfl (W := 1) (Nat.le_of_eq rfl) (by decide) (by decide) (by decide) (by decide) (lenOf pd_5 rfl) (hb hby at_251) rfl fun v77 T77 L77 X77 hQ77 => ?_
      obtain ⟨rfl, Nq77, kc77, p77_0, p77_1, p77_2⟩ := hQ77
      have N77 := Fr.app N37 Nq77
      have Z77 : n0 ≤ T77.heap.size := Nat.le_trans Z66 kc77.1
      show Ga _ _ _ _ _ _ _ _ _ _ _ [(.ref b66)]
      refine g_astore X77 hx (Ls' := #[.val (.int p0), .val (.int p1), .val (.int p2), .val (.int p3), .val (.int p4), .val (.int t0), .val (.int t1), .val (.int t2), .val (.ref b1), .val (.ref b9), .val (.ref b24), .val (.int (0 : Int32)), .val (.ref b48), .val (.ref b56), .val (.ref b66), .unset, .unset]) (hb hby at_254) rfl rfl rfl ?_
      refine g_aload X77 hx (hb hby at_256) rfl rfl rfl ?_
      refine g_iloadN X77 hx (hb hby at_258) rfl rfl ?_
      have f79 : Arv Z T77.heap b48 ka48 .int (0 : Int32) [] (.int (0 : Int32)) := ((f72.ext E66).keep kc77 (ninS ne_b48_b66 nin0))
      have f80 : Arv Z T77.heap b56 ka56 (.object "java/lang/String") (0 : Int32) [] .null := ((Vn56.ext E66).keep kc77 (ninS ne_b56_b66 nin0))
      refine g_virtual X77 hx hZ hown (hw _ (List.mem_of_getElem? (i := 43) rfl)) (hw _ (List.mem_of_getElem? (i := 44) rfl)) (notFace_of_selects (args := #[]) (mvT hZ (hw _ (List.mem_of_getElem? (i := 46) rfl)))) (hw _ (List.mem_of_getElem? (i := 46) rfl)) (hw _ (List.mem_of_getElem? (i := 45) rfl)) (hw _ (List.mem_of_getElem? (i := 34) rfl)) (hw _ (List.mem_of_getElem? (i := 47) rfl)) (by decide) (a := b66) p77_0 (rm_get0_x l Z a0 hw b66 b48 ka48 b56 ka56 p3 T77.heap n0 Z77 p77_1 p77_2 f79 f80) (by rw [hml]; rfl) rfl [(.int p3)] rfl rfl (W := 0) (Nat.le_of_eq rfl) (by decide) (by decide) (by decide) (by decide) (lenOf pd_6 rfl) (hb hby at_259) rfl fun v78 T78 L78 X78 hQ78 => ?_
      obtain ⟨rfl, Nq78, eh78⟩ := hQ78
      have N78 := Fr.app N77 Nq78
      show Ga _ _ _ _ _ _ _ _ _ _ _ [.null]
      refine g_astore X78 hx (Ls' := #[.val (.int p0), .val (.int p1), .val (.int p2), .val (.int p3), .val (.int p4), .val (.int t0), .val (.int t1), .val (.int t2), .val (.ref b1), .val (.ref b9), .val (.ref b24), .val (.int (0 : Int32)), .val (.ref b48), .val (.ref b56), .val (.ref b66), .val .null, .unset]) (hb hby at_262) rfl rfl rfl ?_
      refine g_iload X78 hx (hb hby at_264) rfl rfl ?_
      refine g_iconst X78 hx (r := (1 : Int32)) (hb hby at_266) rfl rfl ?_
      refine g_icmpY X78 hx (q := 283) (hb hby at_267) (XT.ii_lt_t (by decide : (0 : Int32) < (1 : Int32))) (by decide) (by decide) ?_
      refine g_iload X78 hx (hb hby at_283) rfl rfl ?_
      refine g_iconst X78 hx (r := (2 : Int32)) (hb hby at_285) rfl rfl ?_
      refine g_icmpY X78 hx (q := 302) (hb hby at_286) (XT.ii_lt_t (by decide : (0 : Int32) < (2 : Int32))) (by decide) (by decide) ?_
      refine g_iload X78 hx (hb hby at_302) rfl rfl ?_
      refine g_iconst X78 hx (r := (3 : Int32)) (hb hby at_304) rfl rfl ?_
      refine g_icmpY X78 hx (q := 321) (hb hby at_305) (XT.ii_lt_t (by decide : (0 : Int32) < (3 : Int32))) (by decide) (by decide) ?_
      refine g_aconst_null X78 hx (hb hby at_321) rfl  ?_
      refine g_astore X78 hx (Ls' := #[.val (.int p0), .val (.int p1), .val (.int p2), .val (.int p3), .val (.int p4), .val (.int t0), .val (.int t1), .val (.int t2), .val (.ref b1), .val (.ref b9), .val (.ref b24), .val (.int (0 : Int32)), .val (.ref b48), .val (.ref b56), .val (.ref b66), .val .null, .val .null]) (hb hby at_322) rfl rfl rfl ?_
      refine g_aload X78 hx (hb hby at_324) rfl rfl rfl ?_
      refine g_aload X78 hx (hb hby at_326) rfl rfl rfl ?_
      refine g_acmp X78 hx (q := 331) (same := true) (hb hby at_328) rfl rfl (decide_eq_true rfl) (by decide) (by decide) ?_
      refine g_iconst X78 hx (r := (1 : Int32)) (hb hby at_331) rfl rfl ?_
      refine g_goto X78 hx (q := 336) (hb hby at_332) (by decide) (by decide) ?_
      exact g_retN X78 hx (t := .boolean) (r := (1 : Int32)) hret (by simp) hlk (hb hby at_336) rfl (by decide) (by decide) (by rw [eh78]; exact ⟨rfl, N78⟩)
    · skip
      refine g_iload X37 hx (hb hby at_113) rfl rfl ?_
      refine g_ifY X37 hx (q := 132) (hb hby at_115) (XT.i0_ne_t (by decide : ¬ (1 : Int32) = (0 : Int32))) (by decide) (by decide) ?_
      refine g_iload X37 hx (hb hby at_132) rfl rfl ?_
      refine g_iconst X37 hx (r := (1 : Int32)) (hb hby at_134) rfl rfl ?_
      refine g_icmpN X37 hx (hb hby at_135) rfl (XT.ii_ne_f (by decide : (1 : Int32) = (1 : Int32))) ?_
      refine g_iconst X37 hx (r := (1 : Int32)) (hb hby at_138) rfl rfl ?_
      have f82 : Exa Z T37.heap b1 "java/lang/String" := (f42.keep kc37)
      have f83 : Arv Z T37.heap b11 ka11 .char (1 : Int32) [(.int (p1 &&& (255 : Int32)))] (.int (0 : Int32)) := (f43.keep kc37 (ninS ne_b11_b24 nin0))
      have f84 : Arv Z T37.heap b2 ka2 .char (1 : Int32) [(.int (p0 &&& (255 : Int32)))] (.int (0 : Int32)) := (f44.keep kc37 (ninS ne_b2_b24 nin0))
      have f85 : Arv Z T37.heap b29 ka29 .char (1 : Int32) [(.int (p2 &&& (255 : Int32)))] (.int (0 : Int32)) := (Vn36.keep kc37 (ninS (Ne.symm ne_b24_b29) nin0))
      have f86 : Exa Z T37.heap b9 "java/lang/String" := (f45.keep kc37)
      have f87 : Arv Z T37.heap d_16 kd_16 .byte (1 : Int32) [(.int ((p1 &&& (255 : Int32)).toInt8.toInt32))] (.int (0 : Int32)) := (f46.keep kc37 (ninS ne_d_16_b24 nin0))
      have f88 : Arv Z T37.heap d_4 kd_4 .byte (1 : Int32) [(.int ((p0 &&& (255 : Int32)).toInt8.toInt32))] (.int (0 : Int32)) := (f47.keep kc37 (ninS ne_d_4_b24 nin0))
      refine g_newarray X37 hx hZ (aty := .int) (hw _ (List.mem_of_getElem? (i := 30) rfl)) rfl (by decide) 1 (by decide) (by decide) (by decide) (by decide) (ad := "[I") (by decide) (hb hby at_139) rfl fun T81 h81 b81 ka81 X81 e81 q81 E81 A81 V81 => ?_
      have ne_b1_b81 : b1 ≠ b81 := own_ne f82.lt q81
      have ne_b11_b81 : b11 ≠ b81 := own_ne f83.lt q81
      have ne_b2_b81 : b2 ≠ b81 := own_ne f84.lt q81
      have ne_b24_b81 : b24 ≠ b81 := own_ne p37_1.lt q81
      have ne_b29_b81 : b29 ≠ b81 := own_ne f85.lt q81
      have ne_b9_b81 : b9 ≠ b81 := own_ne f86.lt q81
      have ne_d_16_b81 : d_16 ≠ b81 := own_ne f87.lt q81
      have ne_d_37_b81 : d_37 ≠ b81 := own_ne pv37_4.lt q81
      have ne_d_4_b81 : d_4 ≠ b81 := own_ne f88.lt q81
      have g_b81 : n0 ≤ b81 := Nat.le_trans Z37 (Nat.le_of_eq q81.symm)
      have Z81 : n0 ≤ h81.size := Nat.le_trans Z37 E81.1
      have Vn81 : Arv Z h81 b81 ka81 .int (1 : Int32) [(.int (0 : Int32))] (.int (0 : Int32)) := V81
      refine g_dup X81 hx (hb hby at_141) rfl rfl ?_
      refine g_iconst X81 hx (r := (0 : Int32)) (hb hby at_142) rfl rfl ?_
      refine g_iload X81 hx (hb hby at_143) rfl rfl ?_
      refine g_iastore X81 hx hZ e81 Vn81 ⟨by decide, by decide⟩ (Nat.le_of_ble_eq_true rfl) (hb hby at_145) rfl fun T89 h89 X89 e89 W89 V89 => ?_
      have Vn89 : Arv Z h89 b81 ka81 .int (1 : Int32) [(.int t0)] (.int (0 : Int32)) := V89
      have N89 := Fr.snoc X89 N37 g_b81
      have Z89 : n0 ≤ h89.size := by rw [W89.size]; exact Z81
      refine g_astore X89 hx (Ls' := #[.val (.int p0), .val (.int p1), .val (.int p2), .val (.int p3), .val (.int p4), .val (.int t0), .val (.int t1), .val (.int t2), .val (.ref b1), .val (.ref b9), .val (.ref b24), .val (.int (1 : Int32)), .val (.ref b81), .unset, .unset, .unset, .unset]) (hb hby at_146) rfl rfl rfl ?_
      refine g_iconst X89 hx (r := (1 : Int32)) (hb hby at_148) rfl rfl ?_
      have f91 : Exa Z h89 b1 "java/lang/String" := ((f82.ext E81).wr W89)
      have f92 : Arv Z h89 b11 ka11 .char (1 : Int32) [(.int (p1 &&& (255 : Int32)))] (.int (0 : Int32)) := ((f83.ext E81).other W89 ne_b11_b81)
      have f93 : Arv Z h89 b2 ka2 .char (1 : Int32) [(.int (p0 &&& (255 : Int32)))] (.int (0 : Int32)) := ((f84.ext E81).other W89 ne_b2_b81)
      have f94 : Exa Z h89 b24 "java/lang/String" := ((p37_1.ext E81).wr W89)
      have f95 : Arv Z h89 b29 ka29 .char (1 : Int32) [(.int (p2 &&& (255 : Int32)))] (.int (0 : Int32)) := ((f85.ext E81).other W89 ne_b29_b81)
      have f96 : Exa Z h89 b9 "java/lang/String" := ((f86.ext E81).wr W89)
      have f97 : Arv Z h89 d_16 kd_16 .byte (1 : Int32) [(.int ((p1 &&& (255 : Int32)).toInt8.toInt32))] (.int (0 : Int32)) := ((f87.ext E81).other W89 ne_d_16_b81)
      have f98 : Arv Z h89 d_37 kd_37 .byte (1 : Int32) [(.int ((p2 &&& (255 : Int32)).toInt8.toInt32))] (.int (0 : Int32)) := ((pv37_4.ext E81).other W89 ne_d_37_b81)
      have f99 : Arv Z h89 d_4 kd_4 .byte (1 : Int32) [(.int ((p0 &&& (255 : Int32)).toInt8.toInt32))] (.int (0 : Int32)) := ((f88.ext E81).other W89 ne_d_4_b81)
      refine g_anewarray X89 hx hZ hown (hw _ (List.mem_of_getElem? (i := 0) rfl)) (hw _ (List.mem_of_getElem? (i := 31) rfl)) e89 (by decide) 1 (by decide) (by decide) (by decide) (by decide) (ad := "[Ljava/lang/String;") (by decide) (hb hby at_149) rfl fun T90 h90 b90 ka90 X90 e90 q90 E90 A90 O90 V90 => ?_
      have ne_b1_b90 : b1 ≠ b90 := own_ne f91.lt q90
      have ne_b11_b90 : b11 ≠ b90 := own_ne f92.lt q90
      have ne_b2_b90 : b2 ≠ b90 := own_ne f93.lt q90
      have ne_b24_b90 : b24 ≠ b90 := own_ne f94.lt q90
      have ne_b29_b90 : b29 ≠ b90 := own_ne f95.lt q90
      have ne_b81_b90 : b81 ≠ b90 := own_ne Vn89.lt q90
      have ne_b9_b90 : b9 ≠ b90 := own_ne f96.lt q90
      have ne_d_16_b90 : d_16 ≠ b90 := own_ne f97.lt q90
      have ne_d_37_b90 : d_37 ≠ b90 := own_ne f98.lt q90
      have ne_d_4_b90 : d_4 ≠ b90 := own_ne f99.lt q90
      have g_b90 : n0 ≤ b90 := Nat.le_trans Z89 (Nat.le_of_eq q90.symm)
      have Z90 : n0 ≤ h90.size := Nat.le_trans Z89 E90.1
      have Vn90 : Arv Z h90 b90 ka90 (.object "java/lang/String") (1 : Int32) [.null] .null := V90
      refine g_dup X90 hx (hb hby at_152) rfl rfl ?_
      refine g_iconst X90 hx (r := (0 : Int32)) (hb hby at_153) rfl rfl ?_
      refine g_aload X90 hx (hb hby at_154) rfl rfl rfl ?_
      have f101 : Exa Z h90 b1 "java/lang/String" := (f91.ext E90)
      refine g_aastore X90 hx hZ e90 Vn90 rfl (x := .ref b1) rfl (own_sto Vn90 O90 (Ins.self f101)) ⟨by decide, by decide⟩ (Nat.le_of_ble_eq_true rfl) (hb hby at_156) rfl fun T100 h100 X100 e100 W100 V100 => ?_
      have Vn100 : Arv Z h100 b90 ka90 (.object "java/lang/String") (1 : Int32) [(.ref b1)] .null := V100
      have N100 := Fr.snoc X100 N89 g_b90
      have Z100 : n0 ≤ h100.size := by rw [W100.size]; exact Z90
      refine g_astore X100 hx (Ls' := #[.val (.int p0), .val (.int p1), .val (.int p2), .val (.int p3), .val (.int p4), .val (.int t0), .val (.int t1), .val (.int t2), .val (.ref b1), .val (.ref b9), .val (.ref b24), .val (.int (1 : Int32)), .val (.ref b81), .val (.ref b90), .unset, .unset, .unset]) (hb hby at_157) rfl rfl rfl ?_
      refine g_goto X100 hx (q := 243) (hb hby at_159) (by decide) (by decide) ?_
      have f103 : Exa Z h100 b1 "java/lang/String" := (f101.wr W100)
      have f104 : Arv Z h100 b11 ka11 .char (1 : Int32) [(.int (p1 &&& (255 : Int32)))] (.int (0 : Int32)) := ((f92.ext E90).other W100 ne_b11_b90)
      have f105 : Arv Z h100 b2 ka2 .char (1 : Int32) [(.int (p0 &&& (255 : Int32)))] (.int (0 : Int32)) := ((f93.ext E90).other W100 ne_b2_b90)
      have f106 : Exa Z h100 b24 "java/lang/String" := ((f94.ext E90).wr W100)
      have f107 : Arv Z h100 b29 ka29 .char (1 : Int32) [(.int (p2 &&& (255 : Int32)))] (.int (0 : Int32)) := ((f95.ext E90).other W100 ne_b29_b90)
      have f108 : Arv Z h100 b81 ka81 .int (1 : Int32) [(.int t0)] (.int (0 : Int32)) := ((Vn89.ext E90).other W100 ne_b81_b90)
      have f109 : Exa Z h100 b9 "java/lang/String" := ((f96.ext E90).wr W100)
      have f110 : Arv Z h100 d_16 kd_16 .byte (1 : Int32) [(.int ((p1 &&& (255 : Int32)).toInt8.toInt32))] (.int (0 : Int32)) := ((f97.ext E90).other W100 ne_d_16_b90)
      have f111 : Arv Z h100 d_37 kd_37 .byte (1 : Int32) [(.int ((p2 &&& (255 : Int32)).toInt8.toInt32))] (.int (0 : Int32)) := ((f98.ext E90).other W100 ne_d_37_b90)
      have f112 : Arv Z h100 d_4 kd_4 .byte (1 : Int32) [(.int ((p0 &&& (255 : Int32)).toInt8.toInt32))] (.int (0 : Int32)) := ((f99.ext E90).other W100 ne_d_4_b90)
      refine g_new X100 hx hZ hown (hw _ (List.mem_of_getElem? (i := 32) rfl)) (hw _ (List.mem_of_getElem? (i := 33) rfl)) (hw _ (List.mem_of_getElem? (i := 34) rfl)) e100 (hb hby at_243) rfl (by decide) (by decide) fun T102 h102 b102 X102 e102 q102 E102 A102 D102 => ?_
      have ne_b1_b102 : b1 ≠ b102 := own_ne f103.lt q102
      have ne_b11_b102 : b11 ≠ b102 := own_ne f104.lt q102
      have ne_b2_b102 : b2 ≠ b102 := own_ne f105.lt q102
      have ne_b24_b102 : b24 ≠ b102 := own_ne f106.lt q102
      have ne_b29_b102 : b29 ≠ b102 := own_ne f107.lt q102
      have ne_b81_b102 : b81 ≠ b102 := own_ne f108.lt q102
      have ne_b9_b102 : b9 ≠ b102 := own_ne f109.lt q102
      have ne_b90_b102 : b90 ≠ b102 := own_ne Vn100.lt q102
      have ne_d_16_b102 : d_16 ≠ b102 := own_ne f110.lt q102
      have ne_d_37_b102 : d_37 ≠ b102 := own_ne f111.lt q102
      have ne_d_4_b102 : d_4 ≠ b102 := own_ne f112.lt q102
      have g_b102 : n0 ≤ b102 := Nat.le_trans Z100 (Nat.le_of_eq q102.symm)
      have Z102 : n0 ≤ h102.size := Nat.le_trans Z100 E102.1
      have F102_tags : Fld Z h102 b102 "com/example/crosstide/crosstide/fix/FixMessage" "tags" "[I" .null := D102 (Or.inr (hw _ (List.mem_of_getElem? (i := 40) rfl))) (ty := (.array .int)) (by decide)
      have F102_values : Fld Z h102 b102 "com/example/crosstide/crosstide/fix/FixMessage" "values" "[Ljava/lang/String;" .null := D102 (Or.inr (hw _ (List.mem_of_getElem? (i := 42) rfl))) (ty := (.array (.object "java/lang/String"))) (by decide)
      refine g_dup X102 hx (hb hby at_246) rfl rfl ?_
      refine g_aload X102 hx (hb hby at_247) rfl rfl rfl ?_
      refine g_aload X102 hx (hb hby at_249) rfl rfl rfl ?_
      refine g_special X102 hx hZ hown rfl (hw _ (List.mem_of_getElem? (i := 35) rfl)) (hw _ (List.mem_of_getElem? (i := 36) rfl)) (hw _ (List.mem_of_getElem? (i := 34) rfl)) (hw _ (List.mem_of_getElem? (i := 37) rfl)) (by decide) (a := b102) (rm_fini l Z a0 hw b102 b81 b90 h102 n0 Z102 F102_tags F102_values A102 g_b102) (by rw [hml]; rfl) e102 [(.ref b81), (.ref b90)] rfl rfl (W := 1) (Nat.le_of_eq rfl) (by decide) (by decide) (by decide) (by decide) (lenOf pd_5 rfl) (hb hby at_251) rfl fun v113 T113 L113 X113 hQ113 => ?_
      obtain ⟨rfl, Nq113, kc113, p113_0, p113_1, p113_2⟩ := hQ113
      have N113 := Fr.app N100 Nq113
      have Z113 : n0 ≤ T113.heap.size := Nat.le_trans Z102 kc113.1
      show Ga _ _ _ _ _ _ _ _ _ _ _ [(.ref b102)]
      refine g_astore X113 hx (Ls' := #[.val (.int p0), .val (.int p1), .val (.int p2), .val (.int p3), .val (.int p4), .val (.int t0), .val (.int t1), .val (.int t2), .val (.ref b1), .val (.ref b9), .val (.ref b24), .val (.int (1 : Int32)), .val (.ref b81), .val (.ref b90), .val (.ref b102), .unset, .unset]) (hb hby at_254) rfl rfl rfl ?_
      by_cases hk0 : t0 = p3
      · skip
        refine g_aload X113 hx (hb hby at_256) rfl rfl rfl ?_
        refine g_iloadN X113 hx (hb hby at_258) rfl rfl ?_
        have f115 : Arv Z T113.heap b81 ka81 .int (1 : Int32) [(.int t0)] (.int (0 : Int32)) := ((f108.ext E102).keep kc113 (ninS ne_b81_b102 nin0))
        have f116 : Arv Z T113.heap b90 ka90 (.object "java/lang/String") (1 : Int32) [(.ref b1)] .null := ((Vn100.ext E102).keep kc113 (ninS ne_b90_b102 nin0))
        refine g_virtual X113 hx hZ hown (hw _ (List.mem_of_getElem? (i := 43) rfl)) (hw _ (List.mem_of_getElem? (i := 44) rfl)) (notFace_of_selects (args := #[]) (mvT hZ (hw _ (List.mem_of_getElem? (i := 46) rfl)))) (hw _ (List.mem_of_getElem? (i := 46) rfl)) (hw _ (List.mem_of_getElem? (i := 45) rfl)) (hw _ (List.mem_of_getElem? (i := 34) rfl)) (hw _ (List.mem_of_getElem? (i := 47) rfl)) (by decide) (a := b102) p113_0 (rm_get1_0 l Z a0 hw b102 b81 ka81 b90 ka90 p3 t0 b1 T113.heap n0 Z113 p113_1 p113_2 f115 f116 hk0) (by rw [hml]; rfl) rfl [(.int p3)] rfl rfl (W := 0) (Nat.le_of_eq rfl) (by decide) (by decide) (by decide) (by decide) (lenOf pd_6 rfl) (hb hby at_259) rfl fun v114 T114 L114 X114 hQ114 => ?_
        obtain ⟨rfl, Nq114, eh114⟩ := hQ114
        have N114 := Fr.app N113 Nq114
        show Ga _ _ _ _ _ _ _ _ _ _ _ [(.ref b1)]
        refine g_astore X114 hx (Ls' := #[.val (.int p0), .val (.int p1), .val (.int p2), .val (.int p3), .val (.int p4), .val (.int t0), .val (.int t1), .val (.int t2), .val (.ref b1), .val (.ref b9), .val (.ref b24), .val (.int (1 : Int32)), .val (.ref b81), .val (.ref b90), .val (.ref b102), .val (.ref b1), .unset]) (hb hby at_262) rfl rfl rfl ?_
        refine g_iload X114 hx (hb hby at_264) rfl rfl ?_
        refine g_iconst X114 hx (r := (1 : Int32)) (hb hby at_266) rfl rfl ?_
        refine g_icmpN X114 hx (hb hby at_267) rfl (XT.ii_lt_f (by decide : ¬ (1 : Int32) < (1 : Int32))) ?_
        refine g_iload X114 hx (hb hby at_270) rfl rfl ?_
        refine g_iloadN X114 hx (hb hby at_272) rfl rfl ?_
        have hc273 : t0 = p3 := hk0
        refine g_icmpN X114 hx (hb hby at_273) rfl (XT.ii_ne_f hc273) ?_
        refine g_aload X114 hx (hb hby at_276) rfl rfl rfl ?_
        refine g_astore X114 hx (Ls' := #[.val (.int p0), .val (.int p1), .val (.int p2), .val (.int p3), .val (.int p4), .val (.int t0), .val (.int t1), .val (.int t2), .val (.ref b1), .val (.ref b9), .val (.ref b24), .val (.int (1 : Int32)), .val (.ref b81), .val (.ref b90), .val (.ref b102), .val (.ref b1), .val (.ref b1)]) (hb hby at_278) rfl rfl rfl ?_
        refine g_goto X114 hx (q := 324) (hb hby at_280) (by decide) (by decide) ?_
        refine g_aload X114 hx (hb hby at_324) rfl rfl rfl ?_
        refine g_aload X114 hx (hb hby at_326) rfl rfl rfl ?_
        refine g_acmp X114 hx (q := 331) (same := true) (hb hby at_328) rfl rfl (decide_eq_true rfl) (by decide) (by decide) ?_
        refine g_iconst X114 hx (r := (1 : Int32)) (hb hby at_331) rfl rfl ?_
        refine g_goto X114 hx (q := 336) (hb hby at_332) (by decide) (by decide) ?_
        exact g_retN X114 hx (t := .boolean) (r := (1 : Int32)) hret (by simp) hlk (hb hby at_336) rfl (by decide) (by decide) (by rw [eh114]; exact ⟨rfl, N114⟩)
      · skip
        refine g_aload X113 hx (hb hby at_256) rfl rfl rfl ?_
        refine g_iloadN X113 hx (hb hby at_258) rfl rfl ?_
        have f118 : Arv Z T113.heap b81 ka81 .int (1 : Int32) [(.int t0)] (.int (0 : Int32)) := ((f108.ext E102).keep kc113 (ninS ne_b81_b102 nin0))
        have f119 : Arv Z T113.heap b90 ka90 (.object "java/lang/String") (1 : Int32) [(.ref b1)] .null := ((Vn100.ext E102).keep kc113 (ninS ne_b90_b102 nin0))
        refine g_virtual X113 hx hZ hown (hw _ (List.mem_of_getElem? (i := 43) rfl)) (hw _ (List.mem_of_getElem? (i := 44) rfl)) (notFace_of_selects (args := #[]) (mvT hZ (hw _ (List.mem_of_getElem? (i := 46) rfl)))) (hw _ (List.mem_of_getElem? (i := 46) rfl)) (hw _ (List.mem_of_getElem? (i := 45) rfl)) (hw _ (List.mem_of_getElem? (i := 34) rfl)) (hw _ (List.mem_of_getElem? (i := 47) rfl)) (by decide) (a := b102) p113_0 (rm_get1_x l Z a0 hw b102 b81 ka81 b90 ka90 p3 t0 b1 T113.heap n0 Z113 p113_1 p113_2 f118 f119 hk0) (by rw [hml]; rfl) rfl [(.int p3)] rfl rfl (W := 0) (Nat.le_of_eq rfl) (by decide) (by decide) (by decide) (by decide) (lenOf pd_6 rfl) (hb hby at_259) rfl fun v117 T117 L117 X117 hQ117 => ?_
        obtain ⟨rfl, Nq117, eh117⟩ := hQ117
        have N117 := Fr.app N113 Nq117
        show Ga _ _ _ _ _ _ _ _ _ _ _ [.null]
        refine g_astore X117 hx (Ls' := #[.val (.int p0), .val (.int p1), .val (.int p2), .val (.int p3), .val (.int p4), .val (.int t0), .val (.int t1), .val (.int t2), .val (.ref b1), .val (.ref b9), .val (.ref b24), .val (.int (1 : Int32)), .val (.ref b81), .val (.ref b90), .val (.ref b102), .val .null, .unset]) (hb hby at_262) rfl rfl rfl ?_
        refine g_iload X117 hx (hb hby at_264) rfl rfl ?_
        refine g_iconst X117 hx (r := (1 : Int32)) (hb hby at_266) rfl rfl ?_
        refine g_icmpN X117 hx (hb hby at_267) rfl (XT.ii_lt_f (by decide : ¬ (1 : Int32) < (1 : Int32))) ?_
        refine g_iload X117 hx (hb hby at_270) rfl rfl ?_
        refine g_iloadN X117 hx (hb hby at_272) rfl rfl ?_
        have hc273 : ¬ t0 = p3 := hk0
        refine g_icmpY X117 hx (q := 283) (hb hby at_273) (XT.ii_ne_t hc273) (by decide) (by decide) ?_
        refine g_iload X117 hx (hb hby at_283) rfl rfl ?_
        refine g_iconst X117 hx (r := (2 : Int32)) (hb hby at_285) rfl rfl ?_
        refine g_icmpY X117 hx (q := 302) (hb hby at_286) (XT.ii_lt_t (by decide : (1 : Int32) < (2 : Int32))) (by decide) (by decide) ?_
        refine g_iload X117 hx (hb hby at_302) rfl rfl ?_
        refine g_iconst X117 hx (r := (3 : Int32)) (hb hby at_304) rfl rfl ?_
        refine g_icmpY X117 hx (q := 321) (hb hby at_305) (XT.ii_lt_t (by decide : (1 : Int32) < (3 : Int32))) (by decide) (by decide) ?_
        refine g_aconst_null X117 hx (hb hby at_321) rfl  ?_
        refine g_astore X117 hx (Ls' := #[.val (.int p0), .val (.int p1), .val (.int p2), .val (.int p3), .val (.int p4), .val (.int t0), .val (.int t1), .val (.int t2), .val (.ref b1), .val (.ref b9), .val (.ref b24), .val (.int (1 : Int32)), .val (.ref b81), .val (.ref b90), .val (.ref b102), .val .null, .val .null]) (hb hby at_322) rfl rfl rfl ?_
        refine g_aload X117 hx (hb hby at_324) rfl rfl rfl ?_
        refine g_aload X117 hx (hb hby at_326) rfl rfl rfl ?_
        refine g_acmp X117 hx (q := 331) (same := true) (hb hby at_328) rfl rfl (decide_eq_true rfl) (by decide) (by decide) ?_
        refine g_iconst X117 hx (r := (1 : Int32)) (hb hby at_331) rfl rfl ?_
        refine g_goto X117 hx (q := 336) (hb hby at_332) (by decide) (by decide) ?_
        exact g_retN X117 hx (t := .boolean) (r := (1 : Int32)) hret (by simp) hlk (hb hby at_336) rfl (by decide) (by decide) (by rw [eh117]; exact ⟨rfl, N117⟩)
    · skip
      refine g_iload X37 hx (hb hby at_113) rfl rfl ?_
      refine g_ifY X37 hx (q := 132) (hb hby at_115) (XT.i0_ne_t (by decide : ¬ (2 : Int32) = (0 : Int32))) (by decide) (by decide) ?_
      refine g_iload X37 hx (hb hby at_132) rfl rfl ?_
      refine g_iconst X37 hx (r := (1 : Int32)) (hb hby at_134) rfl rfl ?_
      refine g_icmpY X37 hx (q := 162) (hb hby at_135) (XT.ii_ne_t (by decide : ¬ (2 : Int32) = (1 : Int32))) (by decide) (by decide) ?_
      refine g_iload X37 hx (hb hby at_162) rfl rfl ?_
      refine g_iconst X37 hx (r := (2 : Int32)) (hb hby at_164) rfl rfl ?_
      refine g_icmpN X37 hx (hb hby at_165) rfl (XT.ii_ne_f (by decide : (2 : Int32) = (2 : Int32))) ?_
      refine g_iconst X37 hx (r := (2 : Int32)) (hb hby at_168) rfl rfl ?_
      have f121 : Exa Z T37.heap b1 "java/lang/String" := (f42.keep kc37)
      have f122 : Arv Z T37.heap b11 ka11 .char (1 : Int32) [(.int (p1 &&& (255 : Int32)))] (.int (0 : Int32)) := (f43.keep kc37 (ninS ne_b11_b24 nin0))
      have f123 : Arv Z T37.heap b2 ka2 .char (1 : Int32) [(.int (p0 &&& (255 : Int32)))] (.int (0 : Int32)) := (f44.keep kc37 (ninS ne_b2_b24 nin0))
      have f124 : Arv Z T37.heap b29 ka29 .char (1 : Int32) [(.int (p2 &&& (255 : Int32)))] (.int (0 : Int32)) := (Vn36.keep kc37 (ninS (Ne.symm ne_b24_b29) nin0))
      have f125 : Exa Z T37.heap b9 "java/lang/String" := (f45.keep kc37)
      have f126 : Arv Z T37.heap d_16 kd_16 .byte (1 : Int32) [(.int ((p1 &&& (255 : Int32)).toInt8.toInt32))] (.int (0 : Int32)) := (f46.keep kc37 (ninS ne_d_16_b24 nin0))
      have f127 : Arv Z T37.heap d_4 kd_4 .byte (1 : Int32) [(.int ((p0 &&& (255 : Int32)).toInt8.toInt32))] (.int (0 : Int32)) := (f47.keep kc37 (ninS ne_d_4_b24 nin0))
      refine g_newarray X37 hx hZ (aty := .int) (hw _ (List.mem_of_getElem? (i := 30) rfl)) rfl (by decide) 2 (by decide) (by decide) (by decide) (by decide) (ad := "[I") (by decide) (hb hby at_169) rfl fun T120 h120 b120 ka120 X120 e120 q120 E120 A120 V120 => ?_
      have ne_b1_b120 : b1 ≠ b120 := own_ne f121.lt q120
      have ne_b11_b120 : b11 ≠ b120 := own_ne f122.lt q120
      have ne_b2_b120 : b2 ≠ b120 := own_ne f123.lt q120
      have ne_b24_b120 : b24 ≠ b120 := own_ne p37_1.lt q120
      have ne_b29_b120 : b29 ≠ b120 := own_ne f124.lt q120
      have ne_b9_b120 : b9 ≠ b120 := own_ne f125.lt q120
      have ne_d_16_b120 : d_16 ≠ b120 := own_ne f126.lt q120
      have ne_d_37_b120 : d_37 ≠ b120 := own_ne pv37_4.lt q120
      have ne_d_4_b120 : d_4 ≠ b120 := own_ne f127.lt q120
      have g_b120 : n0 ≤ b120 := Nat.le_trans Z37 (Nat.le_of_eq q120.symm)
      have Z120 : n0 ≤ h120.size := Nat.le_trans Z37 E120.1
      have Vn120 : Arv Z h120 b120 ka120 .int (2 : Int32) [(.int (0 : Int32)), (.int (0 : Int32))] (.int (0 : Int32)) := V120
      refine g_dup X120 hx (hb hby at_171) rfl rfl ?_
      refine g_iconst X120 hx (r := (0 : Int32)) (hb hby at_172) rfl rfl ?_
      refine g_iload X120 hx (hb hby at_173) rfl rfl ?_
      refine g_iastore X120 hx hZ e120 Vn120 ⟨by decide, by decide⟩ (Nat.le_of_ble_eq_true rfl) (hb hby at_175) rfl fun T128 h128 X128 e128 W128 V128 => ?_
      have Vn128 : Arv Z h128 b120 ka120 .int (2 : Int32) [(.int t0), (.int (0 : Int32))] (.int (0 : Int32)) := V128
      have N128 := Fr.snoc X128 N37 g_b120
      have Z128 : n0 ≤ h128.size := by rw [W128.size]; exact Z120
      refine g_dup X128 hx (hb hby at_176) rfl rfl ?_
      refine g_iconst X128 hx (r := (1 : Int32)) (hb hby at_177) rfl rfl ?_
      refine g_iload X128 hx (hb hby at_178) rfl rfl ?_
      refine g_iastore X128 hx hZ e128 Vn128 ⟨by decide, by decide⟩ (Nat.le_of_ble_eq_true rfl) (hb hby at_180) rfl fun T129 h129 X129 e129 W129 V129 => ?_
      have Vn129 : Arv Z h129 b120 ka120 .int (2 : Int32) [(.int t0), (.int t1)] (.int (0 : Int32)) := V129
      have N129 := Fr.snoc X129 N128 g_b120
      have Z129 : n0 ≤ h129.size := by rw [W129.size]; exact Z128
      refine g_astore X129 hx (Ls' := #[.val (.int p0), .val (.int p1), .val (.int p2), .val (.int p3), .val (.int p4), .val (.int t0), .val (.int t1), .val (.int t2), .val (.ref b1), .val (.ref b9), .val (.ref b24), .val (.int (2 : Int32)), .val (.ref b120), .unset, .unset, .unset, .unset]) (hb hby at_181) rfl rfl rfl ?_
      refine g_iconst X129 hx (r := (2 : Int32)) (hb hby at_183) rfl rfl ?_
      have f131 : Exa Z h129 b1 "java/lang/String" := (((f121.ext E120).wr W128).wr W129)
      have f132 : Arv Z h129 b11 ka11 .char (1 : Int32) [(.int (p1 &&& (255 : Int32)))] (.int (0 : Int32)) := (((f122.ext E120).other W128 ne_b11_b120).other W129 ne_b11_b120)
      have f133 : Arv Z h129 b2 ka2 .char (1 : Int32) [(.int (p0 &&& (255 : Int32)))] (.int (0 : Int32)) := (((f123.ext E120).other W128 ne_b2_b120).other W129 ne_b2_b120)
      have f134 : Exa Z h129 b24 "java/lang/String" := (((p37_1.ext E120).wr W128).wr W129)
      have f135 : Arv Z h129 b29 ka29 .char (1 : Int32) [(.int (p2 &&& (255 : Int32)))] (.int (0 : Int32)) := (((f124.ext E120).other W128 ne_b29_b120).other W129 ne_b29_b120)
      have f136 : Exa Z h129 b9 "java/lang/String" := (((f125.ext E120).wr W128).wr W129)
      have f137 : Arv Z h129 d_16 kd_16 .byte (1 : Int32) [(.int ((p1 &&& (255 : Int32)).toInt8.toInt32))] (.int (0 : Int32)) := (((f126.ext E120).other W128 ne_d_16_b120).other W129 ne_d_16_b120)
      have f138 : Arv Z h129 d_37 kd_37 .byte (1 : Int32) [(.int ((p2 &&& (255 : Int32)).toInt8.toInt32))] (.int (0 : Int32)) := (((pv37_4.ext E120).other W128 ne_d_37_b120).other W129 ne_d_37_b120)
      have f139 : Arv Z h129 d_4 kd_4 .byte (1 : Int32) [(.int ((p0 &&& (255 : Int32)).toInt8.toInt32))] (.int (0 : Int32)) := (((f127.ext E120).other W128 ne_d_4_b120).other W129 ne_d_4_b120)
      refine g_anewarray X129 hx hZ hown (hw _ (List.mem_of_getElem? (i := 0) rfl)) (hw _ (List.mem_of_getElem? (i := 31) rfl)) e129 (by decide) 2 (by decide) (by decide) (by decide) (by decide) (ad := "[Ljava/lang/String;") (by decide) (hb hby at_184) rfl fun T130 h130 b130 ka130 X130 e130 q130 E130 A130 O130 V130 => ?_
      have ne_b1_b130 : b1 ≠ b130 := own_ne f131.lt q130
      have ne_b11_b130 : b11 ≠ b130 := own_ne f132.lt q130
      have ne_b120_b130 : b120 ≠ b130 := own_ne Vn129.lt q130
      have ne_b2_b130 : b2 ≠ b130 := own_ne f133.lt q130
      have ne_b24_b130 : b24 ≠ b130 := own_ne f134.lt q130
      have ne_b29_b130 : b29 ≠ b130 := own_ne f135.lt q130
      have ne_b9_b130 : b9 ≠ b130 := own_ne f136.lt q130
      have ne_d_16_b130 : d_16 ≠ b130 := own_ne f137.lt q130
      have ne_d_37_b130 : d_37 ≠ b130 := own_ne f138.lt q130
      have ne_d_4_b130 : d_4 ≠ b130 := own_ne f139.lt q130
      have g_b130 : n0 ≤ b130 := Nat.le_trans Z129 (Nat.le_of_eq q130.symm)
      have Z130 : n0 ≤ h130.size := Nat.le_trans Z129 E130.1
      have Vn130 : Arv Z h130 b130 ka130 (.object "java/lang/String") (2 : Int32) [.null, .null] .null := V130
      refine g_dup X130 hx (hb hby at_187) rfl rfl ?_
      refine g_iconst X130 hx (r := (0 : Int32)) (hb hby at_188) rfl rfl ?_
      refine g_aload X130 hx (hb hby at_189) rfl rfl rfl ?_
      have f141 : Exa Z h130 b1 "java/lang/String" := (f131.ext E130)
      refine g_aastore X130 hx hZ e130 Vn130 rfl (x := .ref b1) rfl (own_sto Vn130 O130 (Ins.self f141)) ⟨by decide, by decide⟩ (Nat.le_of_ble_eq_true rfl) (hb hby at_191) rfl fun T140 h140 X140 e140 W140 V140 => ?_
      have Vn140 : Arv Z h140 b130 ka130 (.object "java/lang/String") (2 : Int32) [(.ref b1), .null] .null := V140
      have N140 := Fr.snoc X140 N129 g_b130
      have Z140 : n0 ≤ h140.size := by rw [W140.size]; exact Z130
      refine g_dup X140 hx (hb hby at_192) rfl rfl ?_
      refine g_iconst X140 hx (r := (1 : Int32)) (hb hby at_193) rfl rfl ?_
      refine g_aload X140 hx (hb hby at_194) rfl rfl rfl ?_
      have f143 : Exa Z h140 b9 "java/lang/String" := ((f136.ext E130).wr W140)
      refine g_aastore X140 hx hZ e140 Vn140 rfl (x := .ref b9) rfl (own_sto Vn140 O130 (Ins.self f143)) ⟨by decide, by decide⟩ (Nat.le_of_ble_eq_true rfl) (hb hby at_196) rfl fun T142 h142 X142 e142 W142 V142 => ?_
      have Vn142 : Arv Z h142 b130 ka130 (.object "java/lang/String") (2 : Int32) [(.ref b1), (.ref b9)] .null := V142
      have N142 := Fr.snoc X142 N140 g_b130
      have Z142 : n0 ≤ h142.size := by rw [W142.size]; exact Z140
      refine g_astore X142 hx (Ls' := #[.val (.int p0), .val (.int p1), .val (.int p2), .val (.int p3), .val (.int p4), .val (.int t0), .val (.int t1), .val (.int t2), .val (.ref b1), .val (.ref b9), .val (.ref b24), .val (.int (2 : Int32)), .val (.ref b120), .val (.ref b130), .unset, .unset, .unset]) (hb hby at_197) rfl rfl rfl ?_
      refine g_goto X142 hx (q := 243) (hb hby at_199) (by decide) (by decide) ?_
      have f145 : Exa Z h142 b1 "java/lang/String" := ((f141.wr W140).wr W142)
      have f146 : Arv Z h142 b11 ka11 .char (1 : Int32) [(.int (p1 &&& (255 : Int32)))] (.int (0 : Int32)) := (((f132.ext E130).other W140 ne_b11_b130).other W142 ne_b11_b130)
      have f147 : Arv Z h142 b120 ka120 .int (2 : Int32) [(.int t0), (.int t1)] (.int (0 : Int32)) := (((Vn129.ext E130).other W140 ne_b120_b130).other W142 ne_b120_b130)
      have f148 : Arv Z h142 b2 ka2 .char (1 : Int32) [(.int (p0 &&& (255 : Int32)))] (.int (0 : Int32)) := (((f133.ext E130).other W140 ne_b2_b130).other W142 ne_b2_b130)
      have f149 : Exa Z h142 b24 "java/lang/String" := (((f134.ext E130).wr W140).wr W142)
      have f150 : Arv Z h142 b29 ka29 .char (1 : Int32) [(.int (p2 &&& (255 : Int32)))] (.int (0 : Int32)) := (((f135.ext E130).other W140 ne_b29_b130).other W142 ne_b29_b130)
      have f151 : Exa Z h142 b9 "java/lang/String" := (f143.wr W142)
      have f152 : Arv Z h142 d_16 kd_16 .byte (1 : Int32) [(.int ((p1 &&& (255 : Int32)).toInt8.toInt32))] (.int (0 : Int32)) := (((f137.ext E130).other W140 ne_d_16_b130).other W142 ne_d_16_b130)
      have f153 : Arv Z h142 d_37 kd_37 .byte (1 : Int32) [(.int ((p2 &&& (255 : Int32)).toInt8.toInt32))] (.int (0 : Int32)) := (((f138.ext E130).other W140 ne_d_37_b130).other W142 ne_d_37_b130)
      have f154 : Arv Z h142 d_4 kd_4 .byte (1 : Int32) [(.int ((p0 &&& (255 : Int32)).toInt8.toInt32))] (.int (0 : Int32)) := (((f139.ext E130).other W140 ne_d_4_b130).other W142 ne_d_4_b130)
      refine g_new X142 hx hZ hown (hw _ (List.mem_of_getElem? (i := 32) rfl)) (hw _ (List.mem_of_getElem? (i := 33) rfl)) (hw _ (List.mem_of_getElem? (i := 34) rfl)) e142 (hb hby at_243) rfl (by decide) (by decide) fun T144 h144 b144 X144 e144 q144 E144 A144 D144 => ?_
      have ne_b1_b144 : b1 ≠ b144 := own_ne f145.lt q144
      have ne_b11_b144 : b11 ≠ b144 := own_ne f146.lt q144
      have ne_b120_b144 : b120 ≠ b144 := own_ne f147.lt q144
      have ne_b130_b144 : b130 ≠ b144 := own_ne Vn142.lt q144
      have ne_b2_b144 : b2 ≠ b144 := own_ne f148.lt q144
      have ne_b24_b144 : b24 ≠ b144 := own_ne f149.lt q144
      have ne_b29_b144 : b29 ≠ b144 := own_ne f150.lt q144
      have ne_b9_b144 : b9 ≠ b144 := own_ne f151.lt q144
      have ne_d_16_b144 : d_16 ≠ b144 := own_ne f152.lt q144
      have ne_d_37_b144 : d_37 ≠ b144 := own_ne f153.lt q144
      have ne_d_4_b144 : d_4 ≠ b144 := own_ne f154.lt q144
      have g_b144 : n0 ≤ b144 := Nat.le_trans Z142 (Nat.le_of_eq q144.symm)
      have Z144 : n0 ≤ h144.size := Nat.le_trans Z142 E144.1
      have F144_tags : Fld Z h144 b144 "com/example/crosstide/crosstide/fix/FixMessage" "tags" "[I" .null := D144 (Or.inr (hw _ (List.mem_of_getElem? (i := 40) rfl))) (ty := (.array .int)) (by decide)
      have F144_values : Fld Z h144 b144 "com/example/crosstide/crosstide/fix/FixMessage" "values" "[Ljava/lang/String;" .null := D144 (Or.inr (hw _ (List.mem_of_getElem? (i := 42) rfl))) (ty := (.array (.object "java/lang/String"))) (by decide)
      refine g_dup X144 hx (hb hby at_246) rfl rfl ?_
      refine g_aload X144 hx (hb hby at_247) rfl rfl rfl ?_
      refine g_aload X144 hx (hb hby at_249) rfl rfl rfl ?_
      refine g_special X144 hx hZ hown rfl (hw _ (List.mem_of_getElem? (i := 35) rfl)) (hw _ (List.mem_of_getElem? (i := 36) rfl)) (hw _ (List.mem_of_getElem? (i := 34) rfl)) (hw _ (List.mem_of_getElem? (i := 37) rfl)) (by decide) (a := b144) (rm_fini l Z a0 hw b144 b120 b130 h144 n0 Z144 F144_tags F144_values A144 g_b144) (by rw [hml]; rfl) e144 [(.ref b120), (.ref b130)] rfl rfl (W := 1) (Nat.le_of_eq rfl) (by decide) (by decide) (by decide) (by decide) (lenOf pd_5 rfl) (hb hby at_251) rfl fun v155 T155 L155 X155 hQ155 => ?_
      obtain ⟨rfl, Nq155, kc155, p155_0, p155_1, p155_2⟩ := hQ155
      have N155 := Fr.app N142 Nq155
      have Z155 : n0 ≤ T155.heap.size := Nat.le_trans Z144 kc155.1
      show Ga _ _ _ _ _ _ _ _ _ _ _ [(.ref b144)]
      refine g_astore X155 hx (Ls' := #[.val (.int p0), .val (.int p1), .val (.int p2), .val (.int p3), .val (.int p4), .val (.int t0), .val (.int t1), .val (.int t2), .val (.ref b1), .val (.ref b9), .val (.ref b24), .val (.int (2 : Int32)), .val (.ref b120), .val (.ref b130), .val (.ref b144), .unset, .unset]) (hb hby at_254) rfl rfl rfl ?_
      by_cases hk0 : t0 = p3
      · skip
        refine g_aload X155 hx (hb hby at_256) rfl rfl rfl ?_
        refine g_iloadN X155 hx (hb hby at_258) rfl rfl ?_
        have f157 : Arv Z T155.heap b120 ka120 .int (2 : Int32) [(.int t0), (.int t1)] (.int (0 : Int32)) := ((f147.ext E144).keep kc155 (ninS ne_b120_b144 nin0))
        have f158 : Arv Z T155.heap b130 ka130 (.object "java/lang/String") (2 : Int32) [(.ref b1), (.ref b9)] .null := ((Vn142.ext E144).keep kc155 (ninS ne_b130_b144 nin0))
        refine g_virtual X155 hx hZ hown (hw _ (List.mem_of_getElem? (i := 43) rfl)) (hw _ (List.mem_of_getElem? (i := 44) rfl)) (notFace_of_selects (args := #[]) (mvT hZ (hw _ (List.mem_of_getElem? (i := 46) rfl)))) (hw _ (List.mem_of_getElem? (i := 46) rfl)) (hw _ (List.mem_of_getElem? (i := 45) rfl)) (hw _ (List.mem_of_getElem? (i := 34) rfl)) (hw _ (List.mem_of_getElem? (i := 47) rfl)) (by decide) (a := b144) p155_0 (rm_get2_0 l Z a0 hw b144 b120 ka120 b130 ka130 p3 t0 t1 b1 b9 T155.heap n0 Z155 p155_1 p155_2 f157 f158 hk0) (by rw [hml]; rfl) rfl [(.int p3)] rfl rfl (W := 0) (Nat.le_of_eq rfl) (by decide) (by decide) (by decide) (by decide) (lenOf pd_6 rfl) (hb hby at_259) rfl fun v156 T156 L156 X156 hQ156 => ?_
        obtain ⟨rfl, Nq156, eh156⟩ := hQ156
        have N156 := Fr.app N155 Nq156
        show Ga _ _ _ _ _ _ _ _ _ _ _ [(.ref b1)]
        refine g_astore X156 hx (Ls' := #[.val (.int p0), .val (.int p1), .val (.int p2), .val (.int p3), .val (.int p4), .val (.int t0), .val (.int t1), .val (.int t2), .val (.ref b1), .val (.ref b9), .val (.ref b24), .val (.int (2 : Int32)), .val (.ref b120), .val (.ref b130), .val (.ref b144), .val (.ref b1), .unset]) (hb hby at_262) rfl rfl rfl ?_
        refine g_iload X156 hx (hb hby at_264) rfl rfl ?_
        refine g_iconst X156 hx (r := (1 : Int32)) (hb hby at_266) rfl rfl ?_
        refine g_icmpN X156 hx (hb hby at_267) rfl (XT.ii_lt_f (by decide : ¬ (2 : Int32) < (1 : Int32))) ?_
        refine g_iload X156 hx (hb hby at_270) rfl rfl ?_
        refine g_iloadN X156 hx (hb hby at_272) rfl rfl ?_
        have hc273 : t0 = p3 := hk0
        refine g_icmpN X156 hx (hb hby at_273) rfl (XT.ii_ne_f hc273) ?_
        refine g_aload X156 hx (hb hby at_276) rfl rfl rfl ?_
        refine g_astore X156 hx (Ls' := #[.val (.int p0), .val (.int p1), .val (.int p2), .val (.int p3), .val (.int p4), .val (.int t0), .val (.int t1), .val (.int t2), .val (.ref b1), .val (.ref b9), .val (.ref b24), .val (.int (2 : Int32)), .val (.ref b120), .val (.ref b130), .val (.ref b144), .val (.ref b1), .val (.ref b1)]) (hb hby at_278) rfl rfl rfl ?_
        refine g_goto X156 hx (q := 324) (hb hby at_280) (by decide) (by decide) ?_
        refine g_aload X156 hx (hb hby at_324) rfl rfl rfl ?_
        refine g_aload X156 hx (hb hby at_326) rfl rfl rfl ?_
        refine g_acmp X156 hx (q := 331) (same := true) (hb hby at_328) rfl rfl (decide_eq_true rfl) (by decide) (by decide) ?_
        refine g_iconst X156 hx (r := (1 : Int32)) (hb hby at_331) rfl rfl ?_
        refine g_goto X156 hx (q := 336) (hb hby at_332) (by decide) (by decide) ?_
        exact g_retN X156 hx (t := .boolean) (r := (1 : Int32)) hret (by simp) hlk (hb hby at_336) rfl (by decide) (by decide) (by rw [eh156]; exact ⟨rfl, N156⟩)
      · skip
        by_cases hk1 : t1 = p3
        · skip
          refine g_aload X155 hx (hb hby at_256) rfl rfl rfl ?_
          refine g_iloadN X155 hx (hb hby at_258) rfl rfl ?_
          have f160 : Arv Z T155.heap b120 ka120 .int (2 : Int32) [(.int t0), (.int t1)] (.int (0 : Int32)) := ((f147.ext E144).keep kc155 (ninS ne_b120_b144 nin0))
          have f161 : Arv Z T155.heap b130 ka130 (.object "java/lang/String") (2 : Int32) [(.ref b1), (.ref b9)] .null := ((Vn142.ext E144).keep kc155 (ninS ne_b130_b144 nin0))
          refine g_virtual X155 hx hZ hown (hw _ (List.mem_of_getElem? (i := 43) rfl)) (hw _ (List.mem_of_getElem? (i := 44) rfl)) (notFace_of_selects (args := #[]) (mvT hZ (hw _ (List.mem_of_getElem? (i := 46) rfl)))) (hw _ (List.mem_of_getElem? (i := 46) rfl)) (hw _ (List.mem_of_getElem? (i := 45) rfl)) (hw _ (List.mem_of_getElem? (i := 34) rfl)) (hw _ (List.mem_of_getElem? (i := 47) rfl)) (by decide) (a := b144) p155_0 (rm_get2_1 l Z a0 hw b144 b120 ka120 b130 ka130 p3 t0 t1 b1 b9 T155.heap n0 Z155 p155_1 p155_2 f160 f161 hk0 hk1) (by rw [hml]; rfl) rfl [(.int p3)] rfl rfl (W := 0) (Nat.le_of_eq rfl) (by decide) (by decide) (by decide) (by decide) (lenOf pd_6 rfl) (hb hby at_259) rfl fun v159 T159 L159 X159 hQ159 => ?_
          obtain ⟨rfl, Nq159, eh159⟩ := hQ159
          have N159 := Fr.app N155 Nq159
          show Ga _ _ _ _ _ _ _ _ _ _ _ [(.ref b9)]
          refine g_astore X159 hx (Ls' := #[.val (.int p0), .val (.int p1), .val (.int p2), .val (.int p3), .val (.int p4), .val (.int t0), .val (.int t1), .val (.int t2), .val (.ref b1), .val (.ref b9), .val (.ref b24), .val (.int (2 : Int32)), .val (.ref b120), .val (.ref b130), .val (.ref b144), .val (.ref b9), .unset]) (hb hby at_262) rfl rfl rfl ?_
          refine g_iload X159 hx (hb hby at_264) rfl rfl ?_
          refine g_iconst X159 hx (r := (1 : Int32)) (hb hby at_266) rfl rfl ?_
          refine g_icmpN X159 hx (hb hby at_267) rfl (XT.ii_lt_f (by decide : ¬ (2 : Int32) < (1 : Int32))) ?_
          refine g_iload X159 hx (hb hby at_270) rfl rfl ?_
          refine g_iloadN X159 hx (hb hby at_272) rfl rfl ?_
          have hc273 : ¬ t0 = p3 := hk0
          refine g_icmpY X159 hx (q := 283) (hb hby at_273) (XT.ii_ne_t hc273) (by decide) (by decide) ?_
          refine g_iload X159 hx (hb hby at_283) rfl rfl ?_
          refine g_iconst X159 hx (r := (2 : Int32)) (hb hby at_285) rfl rfl ?_
          refine g_icmpN X159 hx (hb hby at_286) rfl (XT.ii_lt_f (by decide : ¬ (2 : Int32) < (2 : Int32))) ?_
          refine g_iload X159 hx (hb hby at_289) rfl rfl ?_
          refine g_iloadN X159 hx (hb hby at_291) rfl rfl ?_
          have hc292 : t1 = p3 := hk1
          refine g_icmpN X159 hx (hb hby at_292) rfl (XT.ii_ne_f hc292) ?_
          refine g_aload X159 hx (hb hby at_295) rfl rfl rfl ?_
          refine g_astore X159 hx (Ls' := #[.val (.int p0), .val (.int p1), .val (.int p2), .val (.int p3), .val (.int p4), .val (.int t0), .val (.int t1), .val (.int t2), .val (.ref b1), .val (.ref b9), .val (.ref b24), .val (.int (2 : Int32)), .val (.ref b120), .val (.ref b130), .val (.ref b144), .val (.ref b9), .val (.ref b9)]) (hb hby at_297) rfl rfl rfl ?_
          refine g_goto X159 hx (q := 324) (hb hby at_299) (by decide) (by decide) ?_
          refine g_aload X159 hx (hb hby at_324) rfl rfl rfl ?_
          refine g_aload X159 hx (hb hby at_326) rfl rfl rfl ?_
          refine g_acmp X159 hx (q := 331) (same := true) (hb hby at_328) rfl rfl (decide_eq_true rfl) (by decide) (by decide) ?_
          refine g_iconst X159 hx (r := (1 : Int32)) (hb hby at_331) rfl rfl ?_
          refine g_goto X159 hx (q := 336) (hb hby at_332) (by decide) (by decide) ?_
          exact g_retN X159 hx (t := .boolean) (r := (1 : Int32)) hret (by simp) hlk (hb hby at_336) rfl (by decide) (by decide) (by rw [eh159]; exact ⟨rfl, N159⟩)
        · skip
          refine g_aload X155 hx (hb hby at_256) rfl rfl rfl ?_
          refine g_iloadN X155 hx (hb hby at_258) rfl rfl ?_
          have f163 : Arv Z T155.heap b120 ka120 .int (2 : Int32) [(.int t0), (.int t1)] (.int (0 : Int32)) := ((f147.ext E144).keep kc155 (ninS ne_b120_b144 nin0))
          have f164 : Arv Z T155.heap b130 ka130 (.object "java/lang/String") (2 : Int32) [(.ref b1), (.ref b9)] .null := ((Vn142.ext E144).keep kc155 (ninS ne_b130_b144 nin0))
          refine g_virtual X155 hx hZ hown (hw _ (List.mem_of_getElem? (i := 43) rfl)) (hw _ (List.mem_of_getElem? (i := 44) rfl)) (notFace_of_selects (args := #[]) (mvT hZ (hw _ (List.mem_of_getElem? (i := 46) rfl)))) (hw _ (List.mem_of_getElem? (i := 46) rfl)) (hw _ (List.mem_of_getElem? (i := 45) rfl)) (hw _ (List.mem_of_getElem? (i := 34) rfl)) (hw _ (List.mem_of_getElem? (i := 47) rfl)) (by decide) (a := b144) p155_0 (rm_get2_x l Z a0 hw b144 b120 ka120 b130 ka130 p3 t0 t1 b1 b9 T155.heap n0 Z155 p155_1 p155_2 f163 f164 hk0 hk1) (by rw [hml]; rfl) rfl [(.int p3)] rfl rfl (W := 0) (Nat.le_of_eq rfl) (by decide) (by decide) (by decide) (by decide) (lenOf pd_6 rfl) (hb hby at_259) rfl fun v162 T162 L162 X162 hQ162 => ?_
          obtain ⟨rfl, Nq162, eh162⟩ := hQ162
          have N162 := Fr.app N155 Nq162
          show Ga _ _ _ _ _ _ _ _ _ _ _ [.null]
          refine g_astore X162 hx (Ls' := #[.val (.int p0), .val (.int p1), .val (.int p2), .val (.int p3), .val (.int p4), .val (.int t0), .val (.int t1), .val (.int t2), .val (.ref b1), .val (.ref b9), .val (.ref b24), .val (.int (2 : Int32)), .val (.ref b120), .val (.ref b130), .val (.ref b144), .val .null, .unset]) (hb hby at_262) rfl rfl rfl ?_
          refine g_iload X162 hx (hb hby at_264) rfl rfl ?_
          refine g_iconst X162 hx (r := (1 : Int32)) (hb hby at_266) rfl rfl ?_
          refine g_icmpN X162 hx (hb hby at_267) rfl (XT.ii_lt_f (by decide : ¬ (2 : Int32) < (1 : Int32))) ?_
          refine g_iload X162 hx (hb hby at_270) rfl rfl ?_
          refine g_iloadN X162 hx (hb hby at_272) rfl rfl ?_
          have hc273 : ¬ t0 = p3 := hk0
          refine g_icmpY X162 hx (q := 283) (hb hby at_273) (XT.ii_ne_t hc273) (by decide) (by decide) ?_
          refine g_iload X162 hx (hb hby at_283) rfl rfl ?_
          refine g_iconst X162 hx (r := (2 : Int32)) (hb hby at_285) rfl rfl ?_
          refine g_icmpN X162 hx (hb hby at_286) rfl (XT.ii_lt_f (by decide : ¬ (2 : Int32) < (2 : Int32))) ?_
          refine g_iload X162 hx (hb hby at_289) rfl rfl ?_
          refine g_iloadN X162 hx (hb hby at_291) rfl rfl ?_
          have hc292 : ¬ t1 = p3 := hk1
          refine g_icmpY X162 hx (q := 302) (hb hby at_292) (XT.ii_ne_t hc292) (by decide) (by decide) ?_
          refine g_iload X162 hx (hb hby at_302) rfl rfl ?_
          refine g_iconst X162 hx (r := (3 : Int32)) (hb hby at_304) rfl rfl ?_
          refine g_icmpY X162 hx (q := 321) (hb hby at_305) (XT.ii_lt_t (by decide : (2 : Int32) < (3 : Int32))) (by decide) (by decide) ?_
          refine g_aconst_null X162 hx (hb hby at_321) rfl  ?_
          refine g_astore X162 hx (Ls' := #[.val (.int p0), .val (.int p1), .val (.int p2), .val (.int p3), .val (.int p4), .val (.int t0), .val (.int t1), .val (.int t2), .val (.ref b1), .val (.ref b9), .val (.ref b24), .val (.int (2 : Int32)), .val (.ref b120), .val (.ref b130), .val (.ref b144), .val .null, .val .null]) (hb hby at_322) rfl rfl rfl ?_
          refine g_aload X162 hx (hb hby at_324) rfl rfl rfl ?_
          refine g_aload X162 hx (hb hby at_326) rfl rfl rfl ?_
          refine g_acmp X162 hx (q := 331) (same := true) (hb hby at_328) rfl rfl (decide_eq_true rfl) (by decide) (by decide) ?_
          refine g_iconst X162 hx (r := (1 : Int32)) (hb hby at_331) rfl rfl ?_
          refine g_goto X162 hx (q := 336) (hb hby at_332) (by decide) (by decide) ?_
          exact g_retN X162 hx (t := .boolean) (r := (1 : Int32)) hret (by simp) hlk (hb hby at_336) rfl (by decide) (by decide) (by rw [eh162]; exact ⟨rfl, N162⟩)
    · skip
      refine g_iload X37 hx (hb hby at_113) rfl rfl ?_
      refine g_ifY X37 hx (q := 132) (hb hby at_115) (XT.i0_ne_t (by decide : ¬ (3 : Int32) = (0 : Int32))) (by decide) (by decide) ?_
      refine g_iload X37 hx (hb hby at_132) rfl rfl ?_
      refine g_iconst X37 hx (r := (1 : Int32)) (hb hby at_134) rfl rfl ?_
      refine g_icmpY X37 hx (q := 162) (hb hby at_135) (XT.ii_ne_t (by decide : ¬ (3 : Int32) = (1 : Int32))) (by decide) (by decide) ?_
      refine g_iload X37 hx (hb hby at_162) rfl rfl ?_
      refine g_iconst X37 hx (r := (2 : Int32)) (hb hby at_164) rfl rfl ?_
      refine g_icmpY X37 hx (q := 202) (hb hby at_165) (XT.ii_ne_t (by decide : ¬ (3 : Int32) = (2 : Int32))) (by decide) (by decide) ?_
      refine g_iconst X37 hx (r := (3 : Int32)) (hb hby at_202) rfl rfl ?_
      have f166 : Exa Z T37.heap b1 "java/lang/String" := (f42.keep kc37)
      have f167 : Arv Z T37.heap b11 ka11 .char (1 : Int32) [(.int (p1 &&& (255 : Int32)))] (.int (0 : Int32)) := (f43.keep kc37 (ninS ne_b11_b24 nin0))
      have f168 : Arv Z T37.heap b2 ka2 .char (1 : Int32) [(.int (p0 &&& (255 : Int32)))] (.int (0 : Int32)) := (f44.keep kc37 (ninS ne_b2_b24 nin0))
      have f169 : Arv Z T37.heap b29 ka29 .char (1 : Int32) [(.int (p2 &&& (255 : Int32)))] (.int (0 : Int32)) := (Vn36.keep kc37 (ninS (Ne.symm ne_b24_b29) nin0))
      have f170 : Exa Z T37.heap b9 "java/lang/String" := (f45.keep kc37)
      have f171 : Arv Z T37.heap d_16 kd_16 .byte (1 : Int32) [(.int ((p1 &&& (255 : Int32)).toInt8.toInt32))] (.int (0 : Int32)) := (f46.keep kc37 (ninS ne_d_16_b24 nin0))
      have f172 : Arv Z T37.heap d_4 kd_4 .byte (1 : Int32) [(.int ((p0 &&& (255 : Int32)).toInt8.toInt32))] (.int (0 : Int32)) := (f47.keep kc37 (ninS ne_d_4_b24 nin0))
      refine g_newarray X37 hx hZ (aty := .int) (hw _ (List.mem_of_getElem? (i := 30) rfl)) rfl (by decide) 3 (by decide) (by decide) (by decide) (by decide) (ad := "[I") (by decide) (hb hby at_203) rfl fun T165 h165 b165 ka165 X165 e165 q165 E165 A165 V165 => ?_
      have ne_b1_b165 : b1 ≠ b165 := own_ne f166.lt q165
      have ne_b11_b165 : b11 ≠ b165 := own_ne f167.lt q165
      have ne_b2_b165 : b2 ≠ b165 := own_ne f168.lt q165
      have ne_b24_b165 : b24 ≠ b165 := own_ne p37_1.lt q165
      have ne_b29_b165 : b29 ≠ b165 := own_ne f169.lt q165
      have ne_b9_b165 : b9 ≠ b165 := own_ne f170.lt q165
      have ne_d_16_b165 : d_16 ≠ b165 := own_ne f171.lt q165
      have ne_d_37_b165 : d_37 ≠ b165 := own_ne pv37_4.lt q165
      have ne_d_4_b165 : d_4 ≠ b165 := own_ne f172.lt q165
      have g_b165 : n0 ≤ b165 := Nat.le_trans Z37 (Nat.le_of_eq q165.symm)
      have Z165 : n0 ≤ h165.size := Nat.le_trans Z37 E165.1
      have Vn165 : Arv Z h165 b165 ka165 .int (3 : Int32) [(.int (0 : Int32)), (.int (0 : Int32)), (.int (0 : Int32))] (.int (0 : Int32)) := V165
      refine g_dup X165 hx (hb hby at_205) rfl rfl ?_
      refine g_iconst X165 hx (r := (0 : Int32)) (hb hby at_206) rfl rfl ?_
      refine g_iload X165 hx (hb hby at_207) rfl rfl ?_
      refine g_iastore X165 hx hZ e165 Vn165 ⟨by decide, by decide⟩ (Nat.le_of_ble_eq_true rfl) (hb hby at_209) rfl fun T173 h173 X173 e173 W173 V173 => ?_
      have Vn173 : Arv Z h173 b165 ka165 .int (3 : Int32) [(.int t0), (.int (0 : Int32)), (.int (0 : Int32))] (.int (0 : Int32)) := V173
      have N173 := Fr.snoc X173 N37 g_b165
      have Z173 : n0 ≤ h173.size := by rw [W173.size]; exact Z165
      refine g_dup X173 hx (hb hby at_210) rfl rfl ?_
      refine g_iconst X173 hx (r := (1 : Int32)) (hb hby at_211) rfl rfl ?_
      refine g_iload X173 hx (hb hby at_212) rfl rfl ?_
      refine g_iastore X173 hx hZ e173 Vn173 ⟨by decide, by decide⟩ (Nat.le_of_ble_eq_true rfl) (hb hby at_214) rfl fun T174 h174 X174 e174 W174 V174 => ?_
      have Vn174 : Arv Z h174 b165 ka165 .int (3 : Int32) [(.int t0), (.int t1), (.int (0 : Int32))] (.int (0 : Int32)) := V174
      have N174 := Fr.snoc X174 N173 g_b165
      have Z174 : n0 ≤ h174.size := by rw [W174.size]; exact Z173
      refine g_dup X174 hx (hb hby at_215) rfl rfl ?_
      refine g_iconst X174 hx (r := (2 : Int32)) (hb hby at_216) rfl rfl ?_
      refine g_iload X174 hx (hb hby at_217) rfl rfl ?_
      refine g_iastore X174 hx hZ e174 Vn174 ⟨by decide, by decide⟩ (Nat.le_of_ble_eq_true rfl) (hb hby at_219) rfl fun T175 h175 X175 e175 W175 V175 => ?_
      have Vn175 : Arv Z h175 b165 ka165 .int (3 : Int32) [(.int t0), (.int t1), (.int t2)] (.int (0 : Int32)) := V175
      have N175 := Fr.snoc X175 N174 g_b165
      have Z175 : n0 ≤ h175.size := by rw [W175.size]; exact Z174
      refine g_astore X175 hx (Ls' := #[.val (.int p0), .val (.int p1), .val (.int p2), .val (.int p3), .val (.int p4), .val (.int t0), .val (.int t1), .val (.int t2), .val (.ref b1), .val (.ref b9), .val (.ref b24), .val (.int (3 : Int32)), .val (.ref b165), .unset, .unset, .unset, .unset]) (hb hby at_220) rfl rfl rfl ?_
      refine g_iconst X175 hx (r := (3 : Int32)) (hb hby at_222) rfl rfl ?_
      have f177 : Exa Z h175 b1 "java/lang/String" := ((((f166.ext E165).wr W173).wr W174).wr W175)
      have f178 : Arv Z h175 b11 ka11 .char (1 : Int32) [(.int (p1 &&& (255 : Int32)))] (.int (0 : Int32)) := ((((f167.ext E165).other W173 ne_b11_b165).other W174 ne_b11_b165).other W175 ne_b11_b165)
      have f179 : Arv Z h175 b2 ka2 .char (1 : Int32) [(.int (p0 &&& (255 : Int32)))] (.int (0 : Int32)) := ((((f168.ext E165).other W173 ne_b2_b165).other W174 ne_b2_b165).other W175 ne_b2_b165)
      have f180 : Exa Z h175 b24 "java/lang/String" := ((((p37_1.ext E165).wr W173).wr W174).wr W175)
      have f181 : Arv Z h175 b29 ka29 .char (1 : Int32) [(.int (p2 &&& (255 : Int32)))] (.int (0 : Int32)) := ((((f169.ext E165).other W173 ne_b29_b165).other W174 ne_b29_b165).other W175 ne_b29_b165)
      have f182 : Exa Z h175 b9 "java/lang/String" := ((((f170.ext E165).wr W173).wr W174).wr W175)
      have f183 : Arv Z h175 d_16 kd_16 .byte (1 : Int32) [(.int ((p1 &&& (255 : Int32)).toInt8.toInt32))] (.int (0 : Int32)) := ((((f171.ext E165).other W173 ne_d_16_b165).other W174 ne_d_16_b165).other W175 ne_d_16_b165)
      have f184 : Arv Z h175 d_37 kd_37 .byte (1 : Int32) [(.int ((p2 &&& (255 : Int32)).toInt8.toInt32))] (.int (0 : Int32)) := ((((pv37_4.ext E165).other W173 ne_d_37_b165).other W174 ne_d_37_b165).other W175 ne_d_37_b165)
      have f185 : Arv Z h175 d_4 kd_4 .byte (1 : Int32) [(.int ((p0 &&& (255 : Int32)).toInt8.toInt32))] (.int (0 : Int32)) := ((((f172.ext E165).other W173 ne_d_4_b165).other W174 ne_d_4_b165).other W175 ne_d_4_b165)
      refine g_anewarray X175 hx hZ hown (hw _ (List.mem_of_getElem? (i := 0) rfl)) (hw _ (List.mem_of_getElem? (i := 31) rfl)) e175 (by decide) 3 (by decide) (by decide) (by decide) (by decide) (ad := "[Ljava/lang/String;") (by decide) (hb hby at_223) rfl fun T176 h176 b176 ka176 X176 e176 q176 E176 A176 O176 V176 => ?_
      have ne_b1_b176 : b1 ≠ b176 := own_ne f177.lt q176
      have ne_b11_b176 : b11 ≠ b176 := own_ne f178.lt q176
      have ne_b165_b176 : b165 ≠ b176 := own_ne Vn175.lt q176
      have ne_b2_b176 : b2 ≠ b176 := own_ne f179.lt q176
      have ne_b24_b176 : b24 ≠ b176 := own_ne f180.lt q176
      have ne_b29_b176 : b29 ≠ b176 := own_ne f181.lt q176
      have ne_b9_b176 : b9 ≠ b176 := own_ne f182.lt q176
      have ne_d_16_b176 : d_16 ≠ b176 := own_ne f183.lt q176
      have ne_d_37_b176 : d_37 ≠ b176 := own_ne f184.lt q176
      have ne_d_4_b176 : d_4 ≠ b176 := own_ne f185.lt q176
      have g_b176 : n0 ≤ b176 := Nat.le_trans Z175 (Nat.le_of_eq q176.symm)
      have Z176 : n0 ≤ h176.size := Nat.le_trans Z175 E176.1
      have Vn176 : Arv Z h176 b176 ka176 (.object "java/lang/String") (3 : Int32) [.null, .null, .null] .null := V176
      refine g_dup X176 hx (hb hby at_226) rfl rfl ?_
      refine g_iconst X176 hx (r := (0 : Int32)) (hb hby at_227) rfl rfl ?_
      refine g_aload X176 hx (hb hby at_228) rfl rfl rfl ?_
      have f187 : Exa Z h176 b1 "java/lang/String" := (f177.ext E176)
      refine g_aastore X176 hx hZ e176 Vn176 rfl (x := .ref b1) rfl (own_sto Vn176 O176 (Ins.self f187)) ⟨by decide, by decide⟩ (Nat.le_of_ble_eq_true rfl) (hb hby at_230) rfl fun T186 h186 X186 e186 W186 V186 => ?_
      have Vn186 : Arv Z h186 b176 ka176 (.object "java/lang/String") (3 : Int32) [(.ref b1), .null, .null] .null := V186
      have N186 := Fr.snoc X186 N175 g_b176
      have Z186 : n0 ≤ h186.size := by rw [W186.size]; exact Z176
      refine g_dup X186 hx (hb hby at_231) rfl rfl ?_
      refine g_iconst X186 hx (r := (1 : Int32)) (hb hby at_232) rfl rfl ?_
      refine g_aload X186 hx (hb hby at_233) rfl rfl rfl ?_
      have f189 : Exa Z h186 b9 "java/lang/String" := ((f182.ext E176).wr W186)
      refine g_aastore X186 hx hZ e186 Vn186 rfl (x := .ref b9) rfl (own_sto Vn186 O176 (Ins.self f189)) ⟨by decide, by decide⟩ (Nat.le_of_ble_eq_true rfl) (hb hby at_235) rfl fun T188 h188 X188 e188 W188 V188 => ?_
      have Vn188 : Arv Z h188 b176 ka176 (.object "java/lang/String") (3 : Int32) [(.ref b1), (.ref b9), .null] .null := V188
      have N188 := Fr.snoc X188 N186 g_b176
      have Z188 : n0 ≤ h188.size := by rw [W188.size]; exact Z186
      refine g_dup X188 hx (hb hby at_236) rfl rfl ?_
      refine g_iconst X188 hx (r := (2 : Int32)) (hb hby at_237) rfl rfl ?_
      refine g_aload X188 hx (hb hby at_238) rfl rfl rfl ?_
      have f191 : Exa Z h188 b24 "java/lang/String" := (((f180.ext E176).wr W186).wr W188)
      refine g_aastore X188 hx hZ e188 Vn188 rfl (x := .ref b24) rfl (own_sto Vn188 O176 (Ins.self f191)) ⟨by decide, by decide⟩ (Nat.le_of_ble_eq_true rfl) (hb hby at_240) rfl fun T190 h190 X190 e190 W190 V190 => ?_
      have Vn190 : Arv Z h190 b176 ka176 (.object "java/lang/String") (3 : Int32) [(.ref b1), (.ref b9), (.ref b24)] .null := V190
      have N190 := Fr.snoc X190 N188 g_b176
      have Z190 : n0 ≤ h190.size := by rw [W190.size]; exact Z188
      refine g_astore X190 hx (Ls' := #[.val (.int p0), .val (.int p1), .val (.int p2), .val (.int p3), .val (.int p4), .val (.int t0), .val (.int t1), .val (.int t2), .val (.ref b1), .val (.ref b9), .val (.ref b24), .val (.int (3 : Int32)), .val (.ref b165), .val (.ref b176), .unset, .unset, .unset]) (hb hby at_241) rfl rfl rfl ?_
      have f193 : Exa Z h190 b1 "java/lang/String" := (((f187.wr W186).wr W188).wr W190)
      have f194 : Arv Z h190 b11 ka11 .char (1 : Int32) [(.int (p1 &&& (255 : Int32)))] (.int (0 : Int32)) := ((((f178.ext E176).other W186 ne_b11_b176).other W188 ne_b11_b176).other W190 ne_b11_b176)
      have f195 : Arv Z h190 b165 ka165 .int (3 : Int32) [(.int t0), (.int t1), (.int t2)] (.int (0 : Int32)) := ((((Vn175.ext E176).other W186 ne_b165_b176).other W188 ne_b165_b176).other W190 ne_b165_b176)
      have f196 : Arv Z h190 b2 ka2 .char (1 : Int32) [(.int (p0 &&& (255 : Int32)))] (.int (0 : Int32)) := ((((f179.ext E176).other W186 ne_b2_b176).other W188 ne_b2_b176).other W190 ne_b2_b176)
      have f197 : Exa Z h190 b24 "java/lang/String" := (f191.wr W190)
      have f198 : Arv Z h190 b29 ka29 .char (1 : Int32) [(.int (p2 &&& (255 : Int32)))] (.int (0 : Int32)) := ((((f181.ext E176).other W186 ne_b29_b176).other W188 ne_b29_b176).other W190 ne_b29_b176)
      have f199 : Exa Z h190 b9 "java/lang/String" := ((f189.wr W188).wr W190)
      have f200 : Arv Z h190 d_16 kd_16 .byte (1 : Int32) [(.int ((p1 &&& (255 : Int32)).toInt8.toInt32))] (.int (0 : Int32)) := ((((f183.ext E176).other W186 ne_d_16_b176).other W188 ne_d_16_b176).other W190 ne_d_16_b176)
      have f201 : Arv Z h190 d_37 kd_37 .byte (1 : Int32) [(.int ((p2 &&& (255 : Int32)).toInt8.toInt32))] (.int (0 : Int32)) := ((((f184.ext E176).other W186 ne_d_37_b176).other W188 ne_d_37_b176).other W190 ne_d_37_b176)
      have f202 : Arv Z h190 d_4 kd_4 .byte (1 : Int32) [(.int ((p0 &&& (255 : Int32)).toInt8.toInt32))] (.int (0 : Int32)) := ((((f185.ext E176).other W186 ne_d_4_b176).other W188 ne_d_4_b176).other W190 ne_d_4_b176)
      refine g_new X190 hx hZ hown (hw _ (List.mem_of_getElem? (i := 32) rfl)) (hw _ (List.mem_of_getElem? (i := 33) rfl)) (hw _ (List.mem_of_getElem? (i := 34) rfl)) e190 (hb hby at_243) rfl (by decide) (by decide) fun T192 h192 b192 X192 e192 q192 E192 A192 D192 => ?_
      have ne_b1_b192 : b1 ≠ b192 := own_ne f193.lt q192
      have ne_b11_b192 : b11 ≠ b192 := own_ne f194.lt q192
      have ne_b165_b192 : b165 ≠ b192 := own_ne f195.lt q192
      have ne_b176_b192 : b176 ≠ b192 := own_ne Vn190.lt q192
      have ne_b2_b192 : b2 ≠ b192 := own_ne f196.lt q192
      have ne_b24_b192 : b24 ≠ b192 := own_ne f197.lt q192
      have ne_b29_b192 : b29 ≠ b192 := own_ne f198.lt q192
      have ne_b9_b192 : b9 ≠ b192 := own_ne f199.lt q192
      have ne_d_16_b192 : d_16 ≠ b192 := own_ne f200.lt q192
      have ne_d_37_b192 : d_37 ≠ b192 := own_ne f201.lt q192
      have ne_d_4_b192 : d_4 ≠ b192 := own_ne f202.lt q192
      have g_b192 : n0 ≤ b192 := Nat.le_trans Z190 (Nat.le_of_eq q192.symm)
      have Z192 : n0 ≤ h192.size := Nat.le_trans Z190 E192.1
      have F192_tags : Fld Z h192 b192 "com/example/crosstide/crosstide/fix/FixMessage" "tags" "[I" .null := D192 (Or.inr (hw _ (List.mem_of_getElem? (i := 40) rfl))) (ty := (.array .int)) (by decide)
      have F192_values : Fld Z h192 b192 "com/example/crosstide/crosstide/fix/FixMessage" "values" "[Ljava/lang/String;" .null := D192 (Or.inr (hw _ (List.mem_of_getElem? (i := 42) rfl))) (ty := (.array (.object "java/lang/String"))) (by decide)
      refine g_dup X192 hx (hb hby at_246) rfl rfl ?_
      refine g_aload X192 hx (hb hby at_247) rfl rfl rfl ?_
      refine g_aload X192 hx (hb hby at_249) rfl rfl rfl ?_
      refine g_special X192 hx hZ hown rfl (hw _ (List.mem_of_getElem? (i := 35) rfl)) (hw _ (List.mem_of_getElem? (i := 36) rfl)) (hw _ (List.mem_of_getElem? (i := 34) rfl)) (hw _ (List.mem_of_getElem? (i := 37) rfl)) (by decide) (a := b192) (rm_fini l Z a0 hw b192 b165 b176 h192 n0 Z192 F192_tags F192_values A192 g_b192) (by rw [hml]; rfl) e192 [(.ref b165), (.ref b176)] rfl rfl (W := 1) (Nat.le_of_eq rfl) (by decide) (by decide) (by decide) (by decide) (lenOf pd_5 rfl) (hb hby at_251) rfl fun v203 T203 L203 X203 hQ203 => ?_
      obtain ⟨rfl, Nq203, kc203, p203_0, p203_1, p203_2⟩ := hQ203
      have N203 := Fr.app N190 Nq203
      have Z203 : n0 ≤ T203.heap.size := Nat.le_trans Z192 kc203.1
      show Ga _ _ _ _ _ _ _ _ _ _ _ [(.ref b192)]
      refine g_astore X203 hx (Ls' := #[.val (.int p0), .val (.int p1), .val (.int p2), .val (.int p3), .val (.int p4), .val (.int t0), .val (.int t1), .val (.int t2), .val (.ref b1), .val (.ref b9), .val (.ref b24), .val (.int (3 : Int32)), .val (.ref b165), .val (.ref b176), .val (.ref b192), .unset, .unset]) (hb hby at_254) rfl rfl rfl ?_
      by_cases hk0 : t0 = p3
      · skip
        refine g_aload X203 hx (hb hby at_256) rfl rfl rfl ?_
        refine g_iloadN X203 hx (hb hby at_258) rfl rfl ?_
        have f205 : Arv Z T203.heap b165 ka165 .int (3 : Int32) [(.int t0), (.int t1), (.int t2)] (.int (0 : Int32)) := ((f195.ext E192).keep kc203 (ninS ne_b165_b192 nin0))
        have f206 : Arv Z T203.heap b176 ka176 (.object "java/lang/String") (3 : Int32) [(.ref b1), (.ref b9), (.ref b24)] .null := ((Vn190.ext E192).keep kc203 (ninS ne_b176_b192 nin0))
        refine g_virtual X203 hx hZ hown (hw _ (List.mem_of_getElem? (i := 43) rfl)) (hw _ (List.mem_of_getElem? (i := 44) rfl)) (notFace_of_selects (args := #[]) (mvT hZ (hw _ (List.mem_of_getElem? (i := 46) rfl)))) (hw _ (List.mem_of_getElem? (i := 46) rfl)) (hw _ (List.mem_of_getElem? (i := 45) rfl)) (hw _ (List.mem_of_getElem? (i := 34) rfl)) (hw _ (List.mem_of_getElem? (i := 47) rfl)) (by decide) (a := b192) p203_0 (rm_get3_0 l Z a0 hw b192 b165 ka165 b176 ka176 p3 t0 t1 t2 b1 b9 b24 T203.heap n0 Z203 p203_1 p203_2 f205 f206 hk0) (by rw [hml]; rfl) rfl [(.int p3)] rfl rfl (W := 0) (Nat.le_of_eq rfl) (by decide) (by decide) (by decide) (by decide) (lenOf pd_6 rfl) (hb hby at_259) rfl fun v204 T204 L204 X204 hQ204 => ?_
        obtain ⟨rfl, Nq204, eh204⟩ := hQ204
        have N204 := Fr.app N203 Nq204
        show Ga _ _ _ _ _ _ _ _ _ _ _ [(.ref b1)]
        refine g_astore X204 hx (Ls' := #[.val (.int p0), .val (.int p1), .val (.int p2), .val (.int p3), .val (.int p4), .val (.int t0), .val (.int t1), .val (.int t2), .val (.ref b1), .val (.ref b9), .val (.ref b24), .val (.int (3 : Int32)), .val (.ref b165), .val (.ref b176), .val (.ref b192), .val (.ref b1), .unset]) (hb hby at_262) rfl rfl rfl ?_
        refine g_iload X204 hx (hb hby at_264) rfl rfl ?_
        refine g_iconst X204 hx (r := (1 : Int32)) (hb hby at_266) rfl rfl ?_
        refine g_icmpN X204 hx (hb hby at_267) rfl (XT.ii_lt_f (by decide : ¬ (3 : Int32) < (1 : Int32))) ?_
        refine g_iload X204 hx (hb hby at_270) rfl rfl ?_
        refine g_iloadN X204 hx (hb hby at_272) rfl rfl ?_
        have hc273 : t0 = p3 := hk0
        refine g_icmpN X204 hx (hb hby at_273) rfl (XT.ii_ne_f hc273) ?_
        refine g_aload X204 hx (hb hby at_276) rfl rfl rfl ?_
        refine g_astore X204 hx (Ls' := #[.val (.int p0), .val (.int p1), .val (.int p2), .val (.int p3), .val (.int p4), .val (.int t0), .val (.int t1), .val (.int t2), .val (.ref b1), .val (.ref b9), .val (.ref b24), .val (.int (3 : Int32)), .val (.ref b165), .val (.ref b176), .val (.ref b192), .val (.ref b1), .val (.ref b1)]) (hb hby at_278) rfl rfl rfl ?_
        refine g_goto X204 hx (q := 324) (hb hby at_280) (by decide) (by decide) ?_
        refine g_aload X204 hx (hb hby at_324) rfl rfl rfl ?_
        refine g_aload X204 hx (hb hby at_326) rfl rfl rfl ?_
        refine g_acmp X204 hx (q := 331) (same := true) (hb hby at_328) rfl rfl (decide_eq_true rfl) (by decide) (by decide) ?_
        refine g_iconst X204 hx (r := (1 : Int32)) (hb hby at_331) rfl rfl ?_
        refine g_goto X204 hx (q := 336) (hb hby at_332) (by decide) (by decide) ?_
        exact g_retN X204 hx (t := .boolean) (r := (1 : Int32)) hret (by simp) hlk (hb hby at_336) rfl (by decide) (by decide) (by rw [eh204]; exact ⟨rfl, N204⟩)
      · skip
        by_cases hk1 : t1 = p3
        · skip
          refine g_aload X203 hx (hb hby at_256) rfl rfl rfl ?_
          refine g_iloadN X203 hx (hb hby at_258) rfl rfl ?_
          have f208 : Arv Z T203.heap b165 ka165 .int (3 : Int32) [(.int t0), (.int t1), (.int t2)] (.int (0 : Int32)) := ((f195.ext E192).keep kc203 (ninS ne_b165_b192 nin0))
          have f209 : Arv Z T203.heap b176 ka176 (.object "java/lang/String") (3 : Int32) [(.ref b1), (.ref b9), (.ref b24)] .null := ((Vn190.ext E192).keep kc203 (ninS ne_b176_b192 nin0))
          refine g_virtual X203 hx hZ hown (hw _ (List.mem_of_getElem? (i := 43) rfl)) (hw _ (List.mem_of_getElem? (i := 44) rfl)) (notFace_of_selects (args := #[]) (mvT hZ (hw _ (List.mem_of_getElem? (i := 46) rfl)))) (hw _ (List.mem_of_getElem? (i := 46) rfl)) (hw _ (List.mem_of_getElem? (i := 45) rfl)) (hw _ (List.mem_of_getElem? (i := 34) rfl)) (hw _ (List.mem_of_getElem? (i := 47) rfl)) (by decide) (a := b192) p203_0 (rm_get3_1 l Z a0 hw b192 b165 ka165 b176 ka176 p3 t0 t1 t2 b1 b9 b24 T203.heap n0 Z203 p203_1 p203_2 f208 f209 hk0 hk1) (by rw [hml]; rfl) rfl [(.int p3)] rfl rfl (W := 0) (Nat.le_of_eq rfl) (by decide) (by decide) (by decide) (by decide) (lenOf pd_6 rfl) (hb hby at_259) rfl fun v207 T207 L207 X207 hQ207 => ?_
          obtain ⟨rfl, Nq207, eh207⟩ := hQ207
          have N207 := Fr.app N203 Nq207
          show Ga _ _ _ _ _ _ _ _ _ _ _ [(.ref b9)]
          refine g_astore X207 hx (Ls' := #[.val (.int p0), .val (.int p1), .val (.int p2), .val (.int p3), .val (.int p4), .val (.int t0), .val (.int t1), .val (.int t2), .val (.ref b1), .val (.ref b9), .val (.ref b24), .val (.int (3 : Int32)), .val (.ref b165), .val (.ref b176), .val (.ref b192), .val (.ref b9), .unset]) (hb hby at_262) rfl rfl rfl ?_
          refine g_iload X207 hx (hb hby at_264) rfl rfl ?_
          refine g_iconst X207 hx (r := (1 : Int32)) (hb hby at_266) rfl rfl ?_
          refine g_icmpN X207 hx (hb hby at_267) rfl (XT.ii_lt_f (by decide : ¬ (3 : Int32) < (1 : Int32))) ?_
          refine g_iload X207 hx (hb hby at_270) rfl rfl ?_
          refine g_iloadN X207 hx (hb hby at_272) rfl rfl ?_
          have hc273 : ¬ t0 = p3 := hk0
          refine g_icmpY X207 hx (q := 283) (hb hby at_273) (XT.ii_ne_t hc273) (by decide) (by decide) ?_
          refine g_iload X207 hx (hb hby at_283) rfl rfl ?_
          refine g_iconst X207 hx (r := (2 : Int32)) (hb hby at_285) rfl rfl ?_
          refine g_icmpN X207 hx (hb hby at_286) rfl (XT.ii_lt_f (by decide : ¬ (3 : Int32) < (2 : Int32))) ?_
          refine g_iload X207 hx (hb hby at_289) rfl rfl ?_
          refine g_iloadN X207 hx (hb hby at_291) rfl rfl ?_
          have hc292 : t1 = p3 := hk1
          refine g_icmpN X207 hx (hb hby at_292) rfl (XT.ii_ne_f hc292) ?_
          refine g_aload X207 hx (hb hby at_295) rfl rfl rfl ?_
          refine g_astore X207 hx (Ls' := #[.val (.int p0), .val (.int p1), .val (.int p2), .val (.int p3), .val (.int p4), .val (.int t0), .val (.int t1), .val (.int t2), .val (.ref b1), .val (.ref b9), .val (.ref b24), .val (.int (3 : Int32)), .val (.ref b165), .val (.ref b176), .val (.ref b192), .val (.ref b9), .val (.ref b9)]) (hb hby at_297) rfl rfl rfl ?_
          refine g_goto X207 hx (q := 324) (hb hby at_299) (by decide) (by decide) ?_
          refine g_aload X207 hx (hb hby at_324) rfl rfl rfl ?_
          refine g_aload X207 hx (hb hby at_326) rfl rfl rfl ?_
          refine g_acmp X207 hx (q := 331) (same := true) (hb hby at_328) rfl rfl (decide_eq_true rfl) (by decide) (by decide) ?_
          refine g_iconst X207 hx (r := (1 : Int32)) (hb hby at_331) rfl rfl ?_
          refine g_goto X207 hx (q := 336) (hb hby at_332) (by decide) (by decide) ?_
          exact g_retN X207 hx (t := .boolean) (r := (1 : Int32)) hret (by simp) hlk (hb hby at_336) rfl (by decide) (by decide) (by rw [eh207]; exact ⟨rfl, N207⟩)
        · skip
          by_cases hk2 : t2 = p3
          · skip
            refine g_aload X203 hx (hb hby at_256) rfl rfl rfl ?_
            refine g_iloadN X203 hx (hb hby at_258) rfl rfl ?_
            have f211 : Arv Z T203.heap b165 ka165 .int (3 : Int32) [(.int t0), (.int t1), (.int t2)] (.int (0 : Int32)) := ((f195.ext E192).keep kc203 (ninS ne_b165_b192 nin0))
            have f212 : Arv Z T203.heap b176 ka176 (.object "java/lang/String") (3 : Int32) [(.ref b1), (.ref b9), (.ref b24)] .null := ((Vn190.ext E192).keep kc203 (ninS ne_b176_b192 nin0))
            refine g_virtual X203 hx hZ hown (hw _ (List.mem_of_getElem? (i := 43) rfl)) (hw _ (List.mem_of_getElem? (i := 44) rfl)) (notFace_of_selects (args := #[]) (mvT hZ (hw _ (List.mem_of_getElem? (i := 46) rfl)))) (hw _ (List.mem_of_getElem? (i := 46) rfl)) (hw _ (List.mem_of_getElem? (i := 45) rfl)) (hw _ (List.mem_of_getElem? (i := 34) rfl)) (hw _ (List.mem_of_getElem? (i := 47) rfl)) (by decide) (a := b192) p203_0 (rm_get3_2 l Z a0 hw b192 b165 ka165 b176 ka176 p3 t0 t1 t2 b1 b9 b24 T203.heap n0 Z203 p203_1 p203_2 f211 f212 hk0 hk1 hk2) (by rw [hml]; rfl) rfl [(.int p3)] rfl rfl (W := 0) (Nat.le_of_eq rfl) (by decide) (by decide) (by decide) (by decide) (lenOf pd_6 rfl) (hb hby at_259) rfl fun v210 T210 L210 X210 hQ210 => ?_
            obtain ⟨rfl, Nq210, eh210⟩ := hQ210
            have N210 := Fr.app N203 Nq210
            show Ga _ _ _ _ _ _ _ _ _ _ _ [(.ref b24)]
            refine g_astore X210 hx (Ls' := #[.val (.int p0), .val (.int p1), .val (.int p2), .val (.int p3), .val (.int p4), .val (.int t0), .val (.int t1), .val (.int t2), .val (.ref b1), .val (.ref b9), .val (.ref b24), .val (.int (3 : Int32)), .val (.ref b165), .val (.ref b176), .val (.ref b192), .val (.ref b24), .unset]) (hb hby at_262) rfl rfl rfl ?_
            refine g_iload X210 hx (hb hby at_264) rfl rfl ?_
            refine g_iconst X210 hx (r := (1 : Int32)) (hb hby at_266) rfl rfl ?_
            refine g_icmpN X210 hx (hb hby at_267) rfl (XT.ii_lt_f (by decide : ¬ (3 : Int32) < (1 : Int32))) ?_
            refine g_iload X210 hx (hb hby at_270) rfl rfl ?_
            refine g_iloadN X210 hx (hb hby at_272) rfl rfl ?_
            have hc273 : ¬ t0 = p3 := hk0
            refine g_icmpY X210 hx (q := 283) (hb hby at_273) (XT.ii_ne_t hc273) (by decide) (by decide) ?_
            refine g_iload X210 hx (hb hby at_283) rfl rfl ?_
            refine g_iconst X210 hx (r := (2 : Int32)) (hb hby at_285) rfl rfl ?_
            refine g_icmpN X210 hx (hb hby at_286) rfl (XT.ii_lt_f (by decide : ¬ (3 : Int32) < (2 : Int32))) ?_
            refine g_iload X210 hx (hb hby at_289) rfl rfl ?_
            refine g_iloadN X210 hx (hb hby at_291) rfl rfl ?_
            have hc292 : ¬ t1 = p3 := hk1
            refine g_icmpY X210 hx (q := 302) (hb hby at_292) (XT.ii_ne_t hc292) (by decide) (by decide) ?_
            refine g_iload X210 hx (hb hby at_302) rfl rfl ?_
            refine g_iconst X210 hx (r := (3 : Int32)) (hb hby at_304) rfl rfl ?_
            refine g_icmpN X210 hx (hb hby at_305) rfl (XT.ii_lt_f (by decide : ¬ (3 : Int32) < (3 : Int32))) ?_
            refine g_iload X210 hx (hb hby at_308) rfl rfl ?_
            refine g_iloadN X210 hx (hb hby at_310) rfl rfl ?_
            have hc311 : t2 = p3 := hk2
            refine g_icmpN X210 hx (hb hby at_311) rfl (XT.ii_ne_f hc311) ?_
            refine g_aload X210 hx (hb hby at_314) rfl rfl rfl ?_
            refine g_astore X210 hx (Ls' := #[.val (.int p0), .val (.int p1), .val (.int p2), .val (.int p3), .val (.int p4), .val (.int t0), .val (.int t1), .val (.int t2), .val (.ref b1), .val (.ref b9), .val (.ref b24), .val (.int (3 : Int32)), .val (.ref b165), .val (.ref b176), .val (.ref b192), .val (.ref b24), .val (.ref b24)]) (hb hby at_316) rfl rfl rfl ?_
            refine g_goto X210 hx (q := 324) (hb hby at_318) (by decide) (by decide) ?_
            refine g_aload X210 hx (hb hby at_324) rfl rfl rfl ?_
            refine g_aload X210 hx (hb hby at_326) rfl rfl rfl ?_
            refine g_acmp X210 hx (q := 331) (same := true) (hb hby at_328) rfl rfl (decide_eq_true rfl) (by decide) (by decide) ?_
            refine g_iconst X210 hx (r := (1 : Int32)) (hb hby at_331) rfl rfl ?_
            refine g_goto X210 hx (q := 336) (hb hby at_332) (by decide) (by decide) ?_
            exact g_retN X210 hx (t := .boolean) (r := (1 : Int32)) hret (by simp) hlk (hb hby at_336) rfl (by decide) (by decide) (by rw [eh210]; exact ⟨rfl, N210⟩)
          · skip
            refine g_aload X203 hx (hb hby at_256) rfl rfl rfl ?_
            refine g_iloadN X203 hx (hb hby at_258) rfl rfl ?_
            have f214 : Arv Z T203.heap b165 ka165 .int (3 : Int32) [(.int t0), (.int t1), (.int t2)] (.int (0 : Int32)) := ((f195.ext E192).keep kc203 (ninS ne_b165_b192 nin0))
            have f215 : Arv Z T203.heap b176 ka176 (.object "java/lang/String") (3 : Int32) [(.ref b1), (.ref b9), (.ref b24)] .null := ((Vn190.ext E192).keep kc203 (ninS ne_b176_b192 nin0))
            refine g_virtual X203 hx hZ hown (hw _ (List.mem_of_getElem? (i := 43) rfl)) (hw _ (List.mem_of_getElem? (i := 44) rfl)) (notFace_of_selects (args := #[]) (mvT hZ (hw _ (List.mem_of_getElem? (i := 46) rfl)))) (hw _ (List.mem_of_getElem? (i := 46) rfl)) (hw _ (List.mem_of_getElem? (i := 45) rfl)) (hw _ (List.mem_of_getElem? (i := 34) rfl)) (hw _ (List.mem_of_getElem? (i := 47) rfl)) (by decide) (a := b192) p203_0 (rm_get3_x l Z a0 hw b192 b165 ka165 b176 ka176 p3 t0 t1 t2 b1 b9 b24 T203.heap n0 Z203 p203_1 p203_2 f214 f215 hk0 hk1 hk2) (by rw [hml]; rfl) rfl [(.int p3)] rfl rfl (W := 0) (Nat.le_of_eq rfl) (by decide) (by decide) (by decide) (by decide) (lenOf pd_6 rfl) (hb hby at_259) rfl fun v213 T213 L213 X213 hQ213 => ?_
            obtain ⟨rfl, Nq213, eh213⟩ := hQ213
            have N213 := Fr.app N203 Nq213
            show Ga _ _ _ _ _ _ _ _ _ _ _ [.null]
            refine g_astore X213 hx (Ls' := #[.val (.int p0), .val (.int p1), .val (.int p2), .val (.int p3), .val (.int p4), .val (.int t0), .val (.int t1), .val (.int t2), .val (.ref b1), .val (.ref b9), .val (.ref b24), .val (.int (3 : Int32)), .val (.ref b165), .val (.ref b176), .val (.ref b192), .val .null, .unset]) (hb hby at_262) rfl rfl rfl ?_
            refine g_iload X213 hx (hb hby at_264) rfl rfl ?_
            refine g_iconst X213 hx (r := (1 : Int32)) (hb hby at_266) rfl rfl ?_
            refine g_icmpN X213 hx (hb hby at_267) rfl (XT.ii_lt_f (by decide : ¬ (3 : Int32) < (1 : Int32))) ?_
            refine g_iload X213 hx (hb hby at_270) rfl rfl ?_
            refine g_iloadN X213 hx (hb hby at_272) rfl rfl ?_
            have hc273 : ¬ t0 = p3 := hk0
            refine g_icmpY X213 hx (q := 283) (hb hby at_273) (XT.ii_ne_t hc273) (by decide) (by decide) ?_
            refine g_iload X213 hx (hb hby at_283) rfl rfl ?_
            refine g_iconst X213 hx (r := (2 : Int32)) (hb hby at_285) rfl rfl ?_
            refine g_icmpN X213 hx (hb hby at_286) rfl (XT.ii_lt_f (by decide : ¬ (3 : Int32) < (2 : Int32))) ?_
            refine g_iload X213 hx (hb hby at_289) rfl rfl ?_
            refine g_iloadN X213 hx (hb hby at_291) rfl rfl ?_
            have hc292 : ¬ t1 = p3 := hk1
            refine g_icmpY X213 hx (q := 302) (hb hby at_292) (XT.ii_ne_t hc292) (by decide) (by decide) ?_
            refine g_iload X213 hx (hb hby at_302) rfl rfl ?_
            refine g_iconst X213 hx (r := (3 : Int32)) (hb hby at_304) rfl rfl ?_
            refine g_icmpN X213 hx (hb hby at_305) rfl (XT.ii_lt_f (by decide : ¬ (3 : Int32) < (3 : Int32))) ?_
            refine g_iload X213 hx (hb hby at_308) rfl rfl ?_
            refine g_iloadN X213 hx (hb hby at_310) rfl rfl ?_
            have hc311 : ¬ t2 = p3 := hk2
            refine g_icmpY X213 hx (q := 321) (hb hby at_311) (XT.ii_ne_t hc311) (by decide) (by decide) ?_
            refine g_aconst_null X213 hx (hb hby at_321) rfl  ?_
            refine g_astore X213 hx (Ls' := #[.val (.int p0), .val (.int p1), .val (.int p2), .val (.int p3), .val (.int p4), .val (.int t0), .val (.int t1), .val (.int t2), .val (.ref b1), .val (.ref b9), .val (.ref b24), .val (.int (3 : Int32)), .val (.ref b165), .val (.ref b176), .val (.ref b192), .val .null, .val .null]) (hb hby at_322) rfl rfl rfl ?_
            refine g_aload X213 hx (hb hby at_324) rfl rfl rfl ?_
            refine g_aload X213 hx (hb hby at_326) rfl rfl rfl ?_
            refine g_acmp X213 hx (q := 331) (same := true) (hb hby at_328) rfl rfl (decide_eq_true rfl) (by decide) (by decide) ?_
            refine g_iconst X213 hx (r := (1 : Int32)) (hb hby at_331) rfl rfl ?_
            refine g_goto X213 hx (q := 336) (hb hby at_332) (by decide) (by decide) ?_
            exact g_retN X213 hx (t := .boolean) (r := (1 : Int32)) hret (by simp) hlk (hb hby at_336) rfl (by decide) (by decide) (by rw [eh213]; exact ⟨rfl, N213⟩)
  refine g_iload X0 hx (hb hby at_0) rfl rfl ?_
  refine g_iconst X0 hx (r := (1 : Int32)) (hb hby at_2) rfl rfl ?_
  refine g_iand X0 hx (hb hby at_3) rfl rfl ?_
  by_cases hc4 : (p4 &&& (1 : Int32)) = (0 : Int32)
  · skip
    refine g_ifY X0 hx (q := 11) (hb hby at_4) (XT.i0_eq_t hc4) (by decide) (by decide) ?_
    refine g_iloadN X0 hx (hb hby at_11) rfl rfl ?_
    refine g_istore X0 hx (Ls' := #[.val (.int p0), .val (.int p1), .val (.int p2), .val (.int p3), .val (.int p4), .val (.int p0), .unset, .unset, .unset, .unset, .unset, .unset, .unset, .unset, .unset, .unset, .unset]) (hb hby at_12) rfl rfl ?_
    refine g_iload X0 hx (hb hby at_14) rfl rfl ?_
    refine g_iconst X0 hx (r := (2 : Int32)) (hb hby at_16) rfl rfl ?_
    refine g_iand X0 hx (hb hby at_17) rfl rfl ?_
    by_cases hc18 : (p4 &&& (2 : Int32)) = (0 : Int32)
    · skip
      refine g_ifY X0 hx (q := 25) (hb hby at_18) (XT.i0_eq_t hc18) (by decide) (by decide) ?_
      refine g_iloadN X0 hx (hb hby at_25) rfl rfl ?_
      refine g_istore X0 hx (Ls' := #[.val (.int p0), .val (.int p1), .val (.int p2), .val (.int p3), .val (.int p4), .val (.int p0), .val (.int p1), .unset, .unset, .unset, .unset, .unset, .unset, .unset, .unset, .unset, .unset]) (hb hby at_26) rfl rfl ?_
      refine g_iload X0 hx (hb hby at_28) rfl rfl ?_
      refine g_iconst X0 hx (r := (4 : Int32)) (hb hby at_30) rfl rfl ?_
      refine g_iand X0 hx (hb hby at_31) rfl rfl ?_
      by_cases hc32 : (p4 &&& (4 : Int32)) = (0 : Int32)
      · skip
        refine g_ifY X0 hx (q := 39) (hb hby at_32) (XT.i0_eq_t hc32) (by decide) (by decide) ?_
        refine g_iloadN X0 hx (hb hby at_39) rfl rfl ?_
        refine g_istore X0 hx (Ls' := #[.val (.int p0), .val (.int p1), .val (.int p2), .val (.int p3), .val (.int p4), .val (.int p0), .val (.int p1), .val (.int p2), .unset, .unset, .unset, .unset, .unset, .unset, .unset, .unset, .unset]) (hb hby at_40) rfl rfl ?_
        exact J42 p0 p1 p2
      · skip
        refine g_ifN X0 hx (hb hby at_32) rfl (XT.i0_eq_f hc32) ?_
        refine g_iloadN X0 hx (hb hby at_35) rfl rfl ?_
        refine g_goto X0 hx (q := 40) (hb hby at_36) (by decide) (by decide) ?_
        refine g_istore X0 hx (Ls' := #[.val (.int p0), .val (.int p1), .val (.int p2), .val (.int p3), .val (.int p4), .val (.int p0), .val (.int p1), .val (.int p3), .unset, .unset, .unset, .unset, .unset, .unset, .unset, .unset, .unset]) (hb hby at_40) rfl rfl ?_
        exact J42 p0 p1 p3
    · skip
      refine g_ifN X0 hx (hb hby at_18) rfl (XT.i0_eq_f hc18) ?_
      refine g_iloadN X0 hx (hb hby at_21) rfl rfl ?_
      refine g_goto X0 hx (q := 26) (hb hby at_22) (by decide) (by decide) ?_
      refine g_istore X0 hx (Ls' := #[.val (.int p0), .val (.int p1), .val (.int p2), .val (.int p3), .val (.int p4), .val (.int p0), .val (.int p3), .unset, .unset, .unset, .unset, .unset, .unset, .unset, .unset, .unset, .unset]) (hb hby at_26) rfl rfl ?_
      refine g_iload X0 hx (hb hby at_28) rfl rfl ?_
      refine g_iconst X0 hx (r := (4 : Int32)) (hb hby at_30) rfl rfl ?_
      refine g_iand X0 hx (hb hby at_31) rfl rfl ?_
      by_cases hc32 : (p4 &&& (4 : Int32)) = (0 : Int32)
      · skip
        refine g_ifY X0 hx (q := 39) (hb hby at_32) (XT.i0_eq_t hc32) (by decide) (by decide) ?_
        refine g_iloadN X0 hx (hb hby at_39) rfl rfl ?_
        refine g_istore X0 hx (Ls' := #[.val (.int p0), .val (.int p1), .val (.int p2), .val (.int p3), .val (.int p4), .val (.int p0), .val (.int p3), .val (.int p2), .unset, .unset, .unset, .unset, .unset, .unset, .unset, .unset, .unset]) (hb hby at_40) rfl rfl ?_
        exact J42 p0 p3 p2
      · skip
        refine g_ifN X0 hx (hb hby at_32) rfl (XT.i0_eq_f hc32) ?_
        refine g_iloadN X0 hx (hb hby at_35) rfl rfl ?_
        refine g_goto X0 hx (q := 40) (hb hby at_36) (by decide) (by decide) ?_
        refine g_istore X0 hx (Ls' := #[.val (.int p0), .val (.int p1), .val (.int p2), .val (.int p3), .val (.int p4), .val (.int p0), .val (.int p3), .val (.int p3), .unset, .unset, .unset, .unset, .unset, .unset, .unset, .unset, .unset]) (hb hby at_40) rfl rfl ?_
        exact J42 p0 p3 p3
  · skip
    refine g_ifN X0 hx (hb hby at_4) rfl (XT.i0_eq_f hc4) ?_
    refine g_iloadN X0 hx (hb hby at_7) rfl rfl ?_
    refine g_goto X0 hx (q := 12) (hb hby at_8) (by decide) (by decide) ?_
    refine g_istore X0 hx (Ls' := #[.val (.int p0), .val (.int p1), .val (.int p2), .val (.int p3), .val (.int p4), .val (.int p3), .unset, .unset, .unset, .unset, .unset, .unset, .unset, .unset, .unset, .unset, .unset]) (hb hby at_12) rfl rfl ?_
    refine g_iload X0 hx (hb hby at_14) rfl rfl ?_
    refine g_iconst X0 hx (r := (2 : Int32)) (hb hby at_16) rfl rfl ?_
    refine g_iand X0 hx (hb hby at_17) rfl rfl ?_
    by_cases hc18 : (p4 &&& (2 : Int32)) = (0 : Int32)
    · skip
      refine g_ifY X0 hx (q := 25) (hb hby at_18) (XT.i0_eq_t hc18) (by decide) (by decide) ?_
      refine g_iloadN X0 hx (hb hby at_25) rfl rfl ?_
      refine g_istore X0 hx (Ls' := #[.val (.int p0), .val (.int p1), .val (.int p2), .val (.int p3), .val (.int p4), .val (.int p3), .val (.int p1), .unset, .unset, .unset, .unset, .unset, .unset, .unset, .unset, .unset, .unset]) (hb hby at_26) rfl rfl ?_
      refine g_iload X0 hx (hb hby at_28) rfl rfl ?_
      refine g_iconst X0 hx (r := (4 : Int32)) (hb hby at_30) rfl rfl ?_
      refine g_iand X0 hx (hb hby at_31) rfl rfl ?_
      by_cases hc32 : (p4 &&& (4 : Int32)) = (0 : Int32)
      · skip
        refine g_ifY X0 hx (q := 39) (hb hby at_32) (XT.i0_eq_t hc32) (by decide) (by decide) ?_
        refine g_iloadN X0 hx (hb hby at_39) rfl rfl ?_
        refine g_istore X0 hx (Ls' := #[.val (.int p0), .val (.int p1), .val (.int p2), .val (.int p3), .val (.int p4), .val (.int p3), .val (.int p1), .val (.int p2), .unset, .unset, .unset, .unset, .unset, .unset, .unset, .unset, .unset]) (hb hby at_40) rfl rfl ?_
        exact J42 p3 p1 p2
      · skip
        refine g_ifN X0 hx (hb hby at_32) rfl (XT.i0_eq_f hc32) ?_
        refine g_iloadN X0 hx (hb hby at_35) rfl rfl ?_
        refine g_goto X0 hx (q := 40) (hb hby at_36) (by decide) (by decide) ?_
        refine g_istore X0 hx (Ls' := #[.val (.int p0), .val (.int p1), .val (.int p2), .val (.int p3), .val (.int p4), .val (.int p3), .val (.int p1), .val (.int p3), .unset, .unset, .unset, .unset, .unset, .unset, .unset, .unset, .unset]) (hb hby at_40) rfl rfl ?_
        exact J42 p3 p1 p3
    · skip
      refine g_ifN X0 hx (hb hby at_18) rfl (XT.i0_eq_f hc18) ?_
      refine g_iloadN X0 hx (hb hby at_21) rfl rfl ?_
      refine g_goto X0 hx (q := 26) (hb hby at_22) (by decide) (by decide) ?_
      refine g_istore X0 hx (Ls' := #[.val (.int p0), .val (.int p1), .val (.int p2), .val (.int p3), .val (.int p4), .val (.int p3), .val (.int p3), .unset, .unset, .unset, .unset, .unset, .unset, .unset, .unset, .unset, .unset]) (hb hby at_26) rfl rfl ?_
      refine g_iload X0 hx (hb hby at_28) rfl rfl ?_
      refine g_iconst X0 hx (r := (4 : Int32)) (hb hby at_30) rfl rfl ?_
      refine g_iand X0 hx (hb hby at_31) rfl rfl ?_
      by_cases hc32 : (p4 &&& (4 : Int32)) = (0 : Int32)
      · skip
        refine g_ifY X0 hx (q := 39) (hb hby at_32) (XT.i0_eq_t hc32) (by decide) (by decide) ?_
        refine g_iloadN X0 hx (hb hby at_39) rfl rfl ?_
        refine g_istore X0 hx (Ls' := #[.val (.int p0), .val (.int p1), .val (.int p2), .val (.int p3), .val (.int p4), .val (.int p3), .val (.int p3), .val (.int p2), .unset, .unset, .unset, .unset, .unset, .unset, .unset, .unset, .unset]) (hb hby at_40) rfl rfl ?_
        exact J42 p3 p3 p2
      · skip
        refine g_ifN X0 hx (hb hby at_32) rfl (XT.i0_eq_f hc32) ?_
        refine g_iloadN X0 hx (hb hby at_35) rfl rfl ?_
        refine g_goto X0 hx (q := 40) (hb hby at_36) (by decide) (by decide) ?_
        refine g_istore X0 hx (Ls' := #[.val (.int p0), .val (.int p1), .val (.int p2), .val (.int p3), .val (.int p4), .val (.int p3), .val (.int p3), .val (.int p3), .unset, .unset, .unset, .unset, .unset, .unset, .unset, .unset, .unset]) (hb hby at_40) rfl rfl ?_
        exact J42 p3 p3 p3
set_option maxRecDepth 65536 in
set_option maxHeartbeats 40000000 in
theorem comes_1 {Post : Tables → Env → Array Value → State → Outcome → State → Prop} (hpost : ∀ tb e args s v u, (limb_1_1.after args s (.returned v) u = true ∧ limb_1_2.after args s (.returned v) u = true ∧ True) → FrameEnd s (.returned v) u (Jvm.fieldLocs frame_1_writes args s ++ Jvm.arrayLocs frame_1_arrays args s ++ Jvm.staticLocs frame_1_statics s) 32 128 → Post tb e args s (.returned v) u) :
    ArmFor flags0 classFile x code maxLocals ret World_1 tables_1 room_1 Calls_1 rest_1 Pre_1 Post := by
  intro l hfl _ _ p e ha hc hk s m args below hf hA hF happ hP
  obtain ⟨hcalls, hrest, hpre⟩ := hP
  obtain ⟨-, -, -, hnamed, -, -, -, hat⟩ := (Spec.applies_iff hf).mp happ
  obtain ⟨hg, hn⟩ := and_e (Cond.before_iff.mp (show (Jvm.Cond.and given_1 narrow_1).before args s = true from hpre))
  obtain ⟨hcn, hg1⟩ := and_e hg
  obtain ⟨k1, hg2⟩ := and_e hg1
  obtain ⟨k2, hg3⟩ := and_e hg2
  obtain ⟨k3, hg4⟩ := and_e hg3
  obtain ⟨k4, hg5⟩ := and_e hg4
  have k5 := hg5
  obtain ⟨w0, w1, w2, w3, w4, rfl⟩ : ∃ w0 w1 w2 w3 w4 : Value, args = #[w0, w1, w2, w3, w4] := by
    have hs : args.size = 5 := by simpa [Cond.value, given_1] using hcn
    obtain ⟨L⟩ := args
    match L, hs with
    | [w0, w1, w2, w3, w4], _ => exact ⟨w0, w1, w2, w3, w4, rfl⟩
  have hw := fun d (hd : d ∈ tables_1) => atoms_spec (ws := Jvm.Cond.code x code maxLocals ret :: tables_1) hat d (List.mem_cons_of_mem _ hd)
  have hfit : Fit s := fun {y c} hc i hi => by
    obtain ⟨ha, rfl⟩ := Array.getElem?_eq_some_iff.mp hc
    have q := List.all_eq_true.mp ((Array.all_eq_true_iff_forall_mem.mp hF) _ (Array.getElem_mem ha)) i (List.mem_range.mpr hi)
    simpa [Array.getElem?_eq_getElem hi] using q
  obtain ⟨hsets, hown0⟩ := atoms_of _ (rest_1_c_eq ▸ (show rest_1_c.before _ s = true from hrest))
  have hr0 := Cond.before_iff.mp hown0
  obtain ⟨i0, ei0⟩ := is_v k1
  obtain rfl : w0 = (.int i0) := Option.some.inj ei0
  obtain ⟨i1, ei1⟩ := is_v k2
  obtain rfl : w1 = (.int i1) := Option.some.inj ei1
  obtain ⟨i2, ei2⟩ := is_v k3
  obtain rfl : w2 = (.int i2) := Option.some.inj ei2
  obtain ⟨i3, ei3⟩ := is_v k4
  obtain rfl : w3 = (.int i3) := Option.some.inj ei3
  obtain ⟨i4, ei4⟩ := is_v k5
  obtain rfl : w4 = (.int i4) := Option.some.inj ei4
  obtain ⟨cs, ecs⟩ := is_v (Cond.before_iff.mp (hsets _ (List.mem_of_getElem? (i := 1) rfl)))
  have Scs := Sta.start ecs (Or.inl (hsets _ (List.mem_of_getElem? (i := 0) rfl)))
  have hcs : ¬ cs = (0 : Int32) := gotF (Cond.eq_ints ecs (Term.int_eval 0)) (not_v (Cond.before_iff.mp (hsets _ (List.mem_of_getElem? (i := 2) rfl))))
  obtain ⟨n, o, h1, h2, h3, _, L, rfl, ⟨rfl, N⟩, hq⟩ := rm_law l s _ hw tables_1 i0 i1 i2 i3 i4 cs s.heap s.heap.size (Nat.le_refl _) (Old.start s) Scs hcs p e ha hc hk s m _ below hf ((Spec.applies_iff_loose hf).mp happ).1 ⟨rfl, State.Warmed39.refl s, rfl⟩ trivial
  refine ⟨n, _, h1, h2, h3, hpost _ _ _ _ _ _ ⟨Cond.after_iff.mpr rfl, Cond.after_iff.mpr (eq_i res_at (Term.int_eval (1)) rfl), trivial⟩ ⟨hq.1, hq.2.1, (hq.2.2.sift fun y hy => Or.inr (N y hy)).mono (by decide) (by decide)⟩⟩
theorem main_1_1 : Claimed_1_1 := comes_1 fun _ _ _ _ _ _ h hF => ⟨h.1, hF⟩
theorem main_1_2 : Claimed_1_2 := comes_1 fun _ _ _ _ _ _ h hF => ⟨h.2.1, hF⟩
end Jvm.Pilot.@@N@@
namespace Jvm.Pilot.@@N@@
open Jvm Jvm.ClassFile Sem Op Lib Jvm.Free Jvm.Stand Jvm.Pilot.@@N@@.Jvm.D
/-! MADE BY PROGRAM (witnessworld.py) out of the Statement's table words and the real class files: 21 classes; the members and pool entries that the words name. The judged class is class 1, her method 1. -/
namespace start1
open Jvm.ClassFile
def u (s : String) : CpInfo := .utf8 (stringToUtf16 s)
/-- a pool by its gaps: so many unusable entries, then the entry; so many at the end -/
def gap : Nat → List CpInfo → List CpInfo
  | 0, r => r
  | n + 1, r => .unusable :: gap n r
def poolList (es : List (Nat × CpInfo)) (last : Nat) : List CpInfo := es.foldr (fun e r => gap e.1 (e.2 :: r)) (gap last [])
def pool (es : List (Nat × CpInfo)) (last : Nat) : Array CpInfo := ⟨poolList es last⟩
def fileOf (pool : Array CpInfo) (this : Nat) (attrs : Array Attribute := #[]) (ms : Array MethodInfo := #[]) (fl : Nat := 33) (sup : Nat := 0) (ifs : Array Nat := #[]) (fds : Array FieldInfo := #[]) : ClassFile where
  minorVersion := 0
  majorVersion := 65
  constantPool := pool
  accessFlags := fl
  thisClass := this
  superClass := sup
  interfaces := ifs
  fields := fds
  methods := ms
  attributes := attrs
def plain (name : String) (sup : Option ClassId) : Class where
  name := name
  kind := .ordinary
  loader := none
  accessFlags := 33
  super := sup
  interfaces := #[]
  cf := none
  fields := #[]
  methods := #[]
  instanceTypes := #[]
  staticTypes := #[]
  resolved := #[]
  callSites := []
  init := .initialized
  statics := none
  mirror := none

def pool0 : Array CpInfo := pool [(5, u "<init>"), (0, u "()V"), (1, .class_ 10), (1, u "java/lang/Object")] 113

def k0c0 : Code := { maxStack := 0, maxLocals := 1, code := object_method_1_code, exceptionTable := #[], attributes := #[] }
def k0m0 : Method := { name := "<init>", desc := "()V", sig := { parameters := [], returnType := none }, accessFlags := 1, code := some k0c0 }
/-- java/lang/Object -/
def k0 : Class := { plain "java/lang/Object" none with
  accessFlags := 33
  interfaces := #[]
  cf := some (fileOf pool0 8 #[] #[{ accessFlags := 1, nameIndex := 5, descriptorIndex := 6, attributes := #[] }] 33 0 #[] #[])
  fields := #[]
  methods := #[k0m0]
  instanceTypes := #[]
  staticTypes := #[]
  resolved := Array.replicate 124 none
  statics := none }

def pool1 : Array CpInfo := pool [(2, .class_ 4), (1, u "java/lang/Object"), (0, u "<init>"), (0, u "()V"), (0, .class_ 8), (0, u "java/lang/String"), (0, .methodref 7 10), (0, .nameAndType 5 11), (0, u "([C)V"), (0, .class_ 13), (0, u "com/example/crosstide/crosstide/fix/FixMessage"), (0, .methodref 12 15), (0, .nameAndType 5 16), (0, u "([I[Ljava/lang/String;)V"), (0, .methodref 12 18), (0, .nameAndType 19 20), (0, u "get"), (0, u "(I)Ljava/lang/String;"), (0, .class_ 22), (0, u "com/example/crosstide/crosstide/fix/FixMessageGetPinLaw"), (2, u "law"), (0, u "(IIIII)Z")] 7

def k1m0 : Method := { name := "<init>", desc := "()V", sig := { parameters := [], returnType := none }, accessFlags := 1, code := none }
def k1c1 : Code := { maxStack := 7, maxLocals := 17, code := code, exceptionTable := #[], attributes := #[] }
def k1m1 : Method := { name := "law", desc := "(IIIII)Z", sig := { parameters := [.int, .int, .int, .int, .int], returnType := some .boolean }, accessFlags := 9, code := some k1c1 }
/-- com/example/crosstide/crosstide/fix/FixMessageGetPinLaw -/
def k1 : Class := { plain "com/example/crosstide/crosstide/fix/FixMessageGetPinLaw" (some 0) with
  accessFlags := 49
  interfaces := #[]
  cf := some (fileOf pool1 21 #[] #[{ accessFlags := 1, nameIndex := 5, descriptorIndex := 6, attributes := #[] }, { accessFlags := 9, nameIndex := 25, descriptorIndex := 26, attributes := #[] }] 49 2 #[] #[])
  fields := #[]
  methods := #[k1m0, k1m1]
  instanceTypes := #[]
  staticTypes := #[]
  resolved := Array.replicate 34 none
  statics := none }

def pool2 : Array CpInfo := pool [(1, .class_ 2), (0, u "java/io/Serializable"), (0, .class_ 4), (0, u "java/lang/Object")] 2

/-- java/io/Serializable -/
def k2 : Class := { plain "java/io/Serializable" (some 0) with
  accessFlags := 1537
  interfaces := #[]
  cf := some (fileOf pool2 1 #[] #[] 1537 3 #[] #[])
  fields := #[]
  methods := #[]
  instanceTypes := #[]
  staticTypes := #[]
  resolved := Array.replicate 7 none
  statics := none }

def pool3 : Array CpInfo := pool [(1, .class_ 2), (0, u "java/lang/Comparable"), (0, .class_ 4), (0, u "java/lang/Object")] 7

/-- java/lang/Comparable -/
def k3 : Class := { plain "java/lang/Comparable" (some 0) with
  accessFlags := 1537
  interfaces := #[]
  cf := some (fileOf pool3 1 #[] #[] 1537 3 #[] #[])
  fields := #[]
  methods := #[]
  instanceTypes := #[]
  staticTypes := #[]
  resolved := Array.replicate 12 none
  statics := none }

def pool4 : Array CpInfo := pool [(2, .class_ 4), (1, u "java/lang/CharSequence"), (42, .class_ 48), (0, u "java/lang/CharSequence$1CodePointIterator"), (10, .class_ 60), (0, u "java/lang/CharSequence$1CharIterator"), (5, .class_ 67), (0, u "java/lang/Object")] 63

/-- java/lang/CharSequence -/
def k4 : Class := { plain "java/lang/CharSequence" (some 0) with
  accessFlags := 1537
  interfaces := #[]
  cf := some (fileOf pool4 2 #[.nestMembers #[47, 59]] #[] 1537 66 #[] #[])
  fields := #[]
  methods := #[]
  instanceTypes := #[]
  staticTypes := #[]
  resolved := Array.replicate 131 none
  statics := none }

def pool5 : Array CpInfo := pool [(1, .class_ 2), (0, u "java/lang/constant/Constable"), (0, .class_ 4), (0, u "java/lang/Object")] 6

/-- java/lang/constant/Constable -/
def k5 : Class := { plain "java/lang/constant/Constable" (some 0) with
  accessFlags := 1537
  interfaces := #[]
  cf := some (fileOf pool5 1 #[] #[] 1537 3 #[] #[])
  fields := #[]
  methods := #[]
  instanceTypes := #[]
  staticTypes := #[]
  resolved := Array.replicate 11 none
  statics := none }

def pool6 : Array CpInfo := pool [(1, .class_ 2), (0, u "java/lang/constant/ConstantDesc"), (0, .class_ 4), (0, u "java/lang/Object")] 32

/-- java/lang/constant/ConstantDesc -/
def k6 : Class := { plain "java/lang/constant/ConstantDesc" (some 0) with
  accessFlags := 1537
  interfaces := #[]
  cf := some (fileOf pool6 1 #[] #[] 1537 3 #[] #[])
  fields := #[]
  methods := #[]
  instanceTypes := #[]
  staticTypes := #[]
  resolved := Array.replicate 37 none
  statics := none }

def pool7 : Array CpInfo := pool [(1, .methodref 2 3), (0, .class_ 4), (0, .nameAndType 5 6), (0, u "java/lang/Object"), (0, u "<init>"), (0, u "()V"), (2, .fieldref 10 11), (0, .class_ 12), (0, .nameAndType 13 14), (0, u "java/lang/String"), (0, u "value"), (0, u "[B"), (0, .fieldref 10 16), (0, .nameAndType 17 18), (0, u "coder"), (0, u "B"), (2, u "hash"), (0, u "I"), (2, u "hashIsZero"), (0, u "Z"), (0, .methodref 10 28), (0, .nameAndType 5 29), (0, u "([CIILjava/lang/Void;)V"), (8, .fieldref 10 39), (0, .nameAndType 40 26), (0, u "COMPACT_STRINGS"), (1, .class_ 44), (1, u "java/lang/StringUTF16"), (0, u "compress"), (1, .methodref 42 48), (0, .nameAndType 49 50), (0, u "coderFromArrayLen"), (0, u "([BI)B"), (126, .methodref 42 178), (0, .nameAndType 45 179), (0, u "([CII)[B"), (395, .class_ 576), (0, u "java/lang/CharSequence"), (22, u "CASE_INSENSITIVE_ORDER"), (0, u "Ljava/util/Comparator;"), (409, u "([C)V"), (90, u "serialPersistentFields"), (0, u "[Ljava/io/ObjectStreamField;"), (0, .class_ 1104), (0, u "java/lang/String$CaseInsensitiveComparator"), (1, .class_ 1107), (0, u "java/io/Serializable"), (0, .class_ 1109), (0, u "java/lang/Comparable"), (0, .class_ 1111), (0, u "java/lang/constant/Constable"), (0, .class_ 1113), (0, u "java/lang/constant/ConstantDesc"), (2, u "serialVersionUID"), (0, u "J"), (3, u "REPL"), (0, u "C"), (2, u "LATIN1"), (1, u "UTF16")] 323

def k7m0 : Method := { name := "<init>", desc := "()V", sig := { parameters := [], returnType := none }, accessFlags := 1, code := none }
def k7c1 : Code := { maxStack := 5, maxLocals := 2, code := jdk_42_method_3_code, exceptionTable := #[], attributes := #[] }
def k7m1 : Method := { name := "<init>", desc := "([C)V", sig := { parameters := [(.array .char)], returnType := none }, accessFlags := 1, code := some k7c1 }
def k7c2 : Code := { maxStack := 4, maxLocals := 6, code := jdk_42_method_149_code, exceptionTable := #[], attributes := #[] }
def k7m2 : Method := { name := "<init>", desc := "([CIILjava/lang/Void;)V", sig := { parameters := [(.array .char), .int, .int, (.object "java/lang/Void")], returnType := none }, accessFlags := 2, code := some k7c2 }
/-- java/lang/String -/
def k7 : Class := { plain "java/lang/String" (some 0) with
  accessFlags := 49
  interfaces := #[2, 3, 4, 5, 6]
  cf := some (fileOf pool7 10 #[.nestMembers #[1103]] #[{ accessFlags := 1, nameIndex := 5, descriptorIndex := 6, attributes := #[] }, { accessFlags := 1, nameIndex := 5, descriptorIndex := 1010, attributes := #[] }, { accessFlags := 2, nameIndex := 5, descriptorIndex := 29, attributes := #[] }] 49 2 #[1106, 1108, 575, 1110, 1112] #[{ accessFlags := 18, nameIndex := 13, descriptorIndex := 14, attributes := #[] }, { accessFlags := 18, nameIndex := 17, descriptorIndex := 18, attributes := #[] }, { accessFlags := 2, nameIndex := 21, descriptorIndex := 22, attributes := #[] }, { accessFlags := 2, nameIndex := 25, descriptorIndex := 26, attributes := #[] }, { accessFlags := 26, nameIndex := 1116, descriptorIndex := 1117, attributes := #[] }, { accessFlags := 24, nameIndex := 40, descriptorIndex := 26, attributes := #[] }, { accessFlags := 26, nameIndex := 1101, descriptorIndex := 1102, attributes := #[] }, { accessFlags := 26, nameIndex := 1121, descriptorIndex := 1122, attributes := #[] }, { accessFlags := 25, nameIndex := 599, descriptorIndex := 600, attributes := #[] }, { accessFlags := 24, nameIndex := 1125, descriptorIndex := 18, attributes := #[] }, { accessFlags := 24, nameIndex := 1127, descriptorIndex := 18, attributes := #[] }])
  fields := #[{ name := "value", type := (.array .byte), accessFlags := 18, slot := 0, constantValue := 0 }, { name := "coder", type := .byte, accessFlags := 18, slot := 1, constantValue := 0 }, { name := "hash", type := .int, accessFlags := 2, slot := 2, constantValue := 0 }, { name := "hashIsZero", type := .boolean, accessFlags := 2, slot := 3, constantValue := 0 }, { name := "serialVersionUID", type := .long, accessFlags := 26, slot := 0, constantValue := 0 }, { name := "COMPACT_STRINGS", type := .boolean, accessFlags := 24, slot := 1, constantValue := 0 }, { name := "serialPersistentFields", type := (.array (.object "java/io/ObjectStreamField")), accessFlags := 26, slot := 2, constantValue := 0 }, { name := "REPL", type := .char, accessFlags := 26, slot := 3, constantValue := 0 }, { name := "CASE_INSENSITIVE_ORDER", type := (.object "java/util/Comparator"), accessFlags := 25, slot := 4, constantValue := 0 }, { name := "LATIN1", type := .byte, accessFlags := 24, slot := 5, constantValue := 0 }, { name := "UTF16", type := .byte, accessFlags := 24, slot := 6, constantValue := 0 }]
  methods := #[k7m0, k7m1, k7m2]
  instanceTypes := #[(.array .byte), .byte, .int, .boolean]
  staticTypes := #[.long, .boolean, (.array (.object "java/io/ObjectStreamField")), .char, (.object "java/util/Comparator"), .byte, .byte]
  resolved := Array.replicate 1451 none
  statics := some 0 }

def pool8 : Array CpInfo := pool [(6, .class_ 8), (1, u "java/lang/Object"), (0, u "<init>"), (0, u "()V"), (1, .class_ 14), (1, u "java/lang/StringUTF16"), (31, u "$assertionsDisabled"), (0, u "Z"), (13, u "HI_BYTE_SHIFT"), (0, u "I"), (2, u "LO_BYTE_SHIFT"), (49, .methodref 12 116), (0, .nameAndType 117 118), (0, u "compress"), (0, u "([CI[BII)I"), (3, u "([CII)[B"), (138, u "coderFromArrayLen"), (0, u "([BI)B"), (106, .class_ 371), (1, u "java/lang/StringUTF16$LinesSpliterator"), (58, u "MAX_LENGTH"), (196, .class_ 628), (0, u "java/lang/StringUTF16$CodePointsSpliterator"), (0, .class_ 630), (0, u "java/lang/StringUTF16$CharsSpliterator")] 4

def k8m0 : Method := { name := "<init>", desc := "()V", sig := { parameters := [], returnType := none }, accessFlags := 0, code := none }
def k8c1 : Code := { maxStack := 2, maxLocals := 2, code := jdk_52_method_15_code, exceptionTable := #[], attributes := #[] }
def k8m1 : Method := { name := "coderFromArrayLen", desc := "([BI)B", sig := { parameters := [(.array .byte), .int], returnType := some .byte }, accessFlags := 8, code := some k8c1 }
def k8c2 : Code := { maxStack := 5, maxLocals := 6, code := jdk_52_method_16_code, exceptionTable := #[], attributes := #[] }
def k8m2 : Method := { name := "compress", desc := "([CII)[B", sig := { parameters := [(.array .char), .int, .int], returnType := some (.array .byte) }, accessFlags := 9, code := some k8c2 }
def k8c3 : Code := { maxStack := 3, maxLocals := 7, code := jdk_52_method_21_code, exceptionTable := #[], attributes := #[] }
def k8m3 : Method := { name := "compress", desc := "([CI[BII)I", sig := { parameters := [(.array .char), .int, (.array .byte), .int, .int], returnType := some .int }, accessFlags := 9, code := some k8c3 }
/-- java/lang/StringUTF16 -/
def k8 : Class := { plain "java/lang/StringUTF16" (some 0) with
  accessFlags := 48
  interfaces := #[]
  cf := some (fileOf pool8 12 #[.nestMembers #[627, 629, 369]] #[{ accessFlags := 0, nameIndex := 9, descriptorIndex := 10, attributes := #[] }, { accessFlags := 8, nameIndex := 261, descriptorIndex := 262, attributes := #[] }, { accessFlags := 9, nameIndex := 117, descriptorIndex := 122, attributes := #[] }, { accessFlags := 9, nameIndex := 117, descriptorIndex := 118, attributes := #[] }] 48 6 #[] #[{ accessFlags := 26, nameIndex := 61, descriptorIndex := 62, attributes := #[] }, { accessFlags := 26, nameIndex := 65, descriptorIndex := 62, attributes := #[] }, { accessFlags := 24, nameIndex := 430, descriptorIndex := 62, attributes := #[] }, { accessFlags := 4120, nameIndex := 46, descriptorIndex := 47, attributes := #[] }])
  fields := #[{ name := "HI_BYTE_SHIFT", type := .int, accessFlags := 26, slot := 0, constantValue := 0 }, { name := "LO_BYTE_SHIFT", type := .int, accessFlags := 26, slot := 1, constantValue := 0 }, { name := "MAX_LENGTH", type := .int, accessFlags := 24, slot := 2, constantValue := 0 }, { name := "$assertionsDisabled", type := .boolean, accessFlags := 4120, slot := 3, constantValue := 0 }]
  methods := #[k8m0, k8m1, k8m2, k8m3]
  instanceTypes := #[]
  staticTypes := #[.int, .int, .int, .boolean]
  resolved := Array.replicate 635 none
  statics := none }

def pool9 : Array CpInfo := pool [(1, .methodref 2 3), (0, .class_ 4), (0, .nameAndType 5 6), (0, u "java/lang/Object"), (0, u "<init>"), (0, u "()V"), (0, .fieldref 8 9), (0, .class_ 10), (0, .nameAndType 11 12), (0, u "com/example/crosstide/crosstide/fix/FixMessage"), (0, u "tags"), (0, u "[I"), (0, .fieldref 8 14), (0, .nameAndType 15 16), (0, u "values"), (0, u "[Ljava/lang/String;"), (4, u "get"), (0, u "(I)Ljava/lang/String;"), (30, u "BEGIN_STRING"), (0, u "Ljava/lang/String;"), (3, u "MAX_DIGITS"), (0, u "I"), (1, u "([I[Ljava/lang/String;)V")] 15

def k9c0 : Code := { maxStack := 2, maxLocals := 3, code := prog_57_method_1_code, exceptionTable := #[], attributes := #[] }
def k9m0 : Method := { name := "<init>", desc := "([I[Ljava/lang/String;)V", sig := { parameters := [(.array .int), (.array (.object "java/lang/String"))], returnType := none }, accessFlags := 0, code := some k9c0 }
def k9c1 : Code := { maxStack := 2, maxLocals := 3, code := prog_57_method_3_code, exceptionTable := #[], attributes := #[] }
def k9m1 : Method := { name := "get", desc := "(I)Ljava/lang/String;", sig := { parameters := [.int], returnType := some (.object "java/lang/String") }, accessFlags := 0, code := some k9c1 }
/-- com/example/crosstide/crosstide/fix/FixMessage -/
def k9 : Class := { plain "com/example/crosstide/crosstide/fix/FixMessage" (some 0) with
  accessFlags := 48
  interfaces := #[]
  cf := some (fileOf pool9 8 #[] #[{ accessFlags := 0, nameIndex := 5, descriptorIndex := 61, attributes := #[] }, { accessFlags := 0, nameIndex := 21, descriptorIndex := 22, attributes := #[] }] 48 2 #[] #[{ accessFlags := 24, nameIndex := 53, descriptorIndex := 54, attributes := #[] }, { accessFlags := 26, nameIndex := 58, descriptorIndex := 59, attributes := #[] }, { accessFlags := 18, nameIndex := 11, descriptorIndex := 12, attributes := #[] }, { accessFlags := 18, nameIndex := 15, descriptorIndex := 16, attributes := #[] }])
  fields := #[{ name := "BEGIN_STRING", type := (.object "java/lang/String"), accessFlags := 24, slot := 0, constantValue := 0 }, { name := "MAX_DIGITS", type := .int, accessFlags := 26, slot := 1, constantValue := 0 }, { name := "tags", type := (.array .int), accessFlags := 18, slot := 0, constantValue := 0 }, { name := "values", type := (.array (.object "java/lang/String")), accessFlags := 18, slot := 1, constantValue := 0 }]
  methods := #[k9m0, k9m1]
  instanceTypes := #[(.array .int), (.array (.object "java/lang/String"))]
  staticTypes := #[(.object "java/lang/String"), .int]
  resolved := Array.replicate 77 none
  statics := none }

def pool10 : Array CpInfo := pool [(4, .class_ 6), (1, u "java/lang/Object"), (0, u "<init>"), (0, u "()V"), (5, .class_ 16), (1, u "java/lang/StringLatin1"), (104, u "$assertionsDisabled"), (0, u "Z"), (98, .class_ 223), (1, u "java/lang/StringLatin1$LinesSpliterator"), (166, .class_ 391), (0, u "java/lang/StringLatin1$CharsSpliterator")] 3

def k10m0 : Method := { name := "<init>", desc := "()V", sig := { parameters := [], returnType := none }, accessFlags := 0, code := none }
/-- java/lang/StringLatin1 -/
def k10 : Class := { plain "java/lang/StringLatin1" (some 0) with
  accessFlags := 48
  interfaces := #[]
  cf := some (fileOf pool10 14 #[.nestMembers #[390, 221]] #[{ accessFlags := 0, nameIndex := 7, descriptorIndex := 8, attributes := #[] }] 48 4 #[] #[{ accessFlags := 4120, nameIndex := 121, descriptorIndex := 122, attributes := #[] }])
  fields := #[{ name := "$assertionsDisabled", type := .boolean, accessFlags := 4120, slot := 0, constantValue := 0 }]
  methods := #[k10m0]
  instanceTypes := #[]
  staticTypes := #[.boolean]
  resolved := Array.replicate 395 none
  statics := none }

def pool11 : Array CpInfo := pool [(2, .class_ 4), (1, u "java/lang/Object"), (0, u "<init>"), (0, u "()V"), (17, .class_ 26), (1, u "jdk/internal/util/Preconditions"), (28, .class_ 56), (0, u "jdk/internal/util/Preconditions$4"), (57, .class_ 115), (0, u "jdk/internal/util/Preconditions$1"), (7, u "SIOOBE_FORMATTER"), (0, u "Ljava/util/function/BiFunction;"), (0, .class_ 126), (0, u "jdk/internal/util/Preconditions$2"), (3, u "AIOOBE_FORMATTER"), (0, .class_ 132), (0, u "jdk/internal/util/Preconditions$3"), (3, u "IOOBE_FORMATTER")] 57

def k11m0 : Method := { name := "<init>", desc := "()V", sig := { parameters := [], returnType := none }, accessFlags := 1, code := none }
/-- jdk/internal/util/Preconditions -/
def k11 : Class := { plain "jdk/internal/util/Preconditions" (some 0) with
  accessFlags := 33
  interfaces := #[]
  cf := some (fileOf pool11 24 #[.nestMembers #[55, 131, 125, 114]] #[{ accessFlags := 1, nameIndex := 5, descriptorIndex := 6, attributes := #[] }] 33 2 #[] #[{ accessFlags := 25, nameIndex := 123, descriptorIndex := 124, attributes := #[] }, { accessFlags := 25, nameIndex := 130, descriptorIndex := 124, attributes := #[] }, { accessFlags := 25, nameIndex := 136, descriptorIndex := 124, attributes := #[] }])
  fields := #[{ name := "SIOOBE_FORMATTER", type := (.object "java/util/function/BiFunction"), accessFlags := 25, slot := 0, constantValue := 0 }, { name := "AIOOBE_FORMATTER", type := (.object "java/util/function/BiFunction"), accessFlags := 25, slot := 1, constantValue := 0 }, { name := "IOOBE_FORMATTER", type := (.object "java/util/function/BiFunction"), accessFlags := 25, slot := 2, constantValue := 0 }]
  methods := #[k11m0]
  instanceTypes := #[]
  staticTypes := #[(.object "java/util/function/BiFunction"), (.object "java/util/function/BiFunction"), (.object "java/util/function/BiFunction")]
  resolved := Array.replicate 194 none
  statics := some 1 }

def pool12 : Array CpInfo := pool [(9, u "<init>"), (6, .class_ 18), (1, u "java/lang/Object"), (0, u "()V"), (1, .class_ 23), (1, u "jdk/internal/util/ArraysSupport"), (0, u "LOG2_ARRAY_LONG_INDEX_SCALE"), (0, u "I"), (2, u "U"), (0, u "Ljdk/internal/misc/Unsafe;"), (8, u "BIG_ENDIAN"), (0, u "Z"), (8, u "LOG2_BYTE_BIT_SIZE"), (4, u "LOG2_ARRAY_INT_INDEX_SCALE"), (54, u "JLA"), (0, u "Ljdk/internal/access/JavaLangAccess;"), (11, u "LOG2_ARRAY_BOOLEAN_INDEX_SCALE"), (9, u "LOG2_ARRAY_BYTE_INDEX_SCALE"), (5, u "LOG2_ARRAY_CHAR_INDEX_SCALE"), (5, u "LOG2_ARRAY_SHORT_INDEX_SCALE"), (18, u "LOG2_ARRAY_FLOAT_INDEX_SCALE"), (24, u "LOG2_ARRAY_DOUBLE_INDEX_SCALE"), (89, u "T_BOOLEAN"), (2, u "T_CHAR"), (1, u "T_FLOAT"), (1, u "T_DOUBLE"), (1, u "T_BYTE"), (1, u "T_SHORT"), (1, u "T_INT"), (1, u "T_LONG"), (1, u "SOFT_MAX_ARRAY_LENGTH")] 83

def k12m0 : Method := { name := "<init>", desc := "()V", sig := { parameters := [], returnType := none }, accessFlags := 2, code := none }
/-- jdk/internal/util/ArraysSupport -/
def k12 : Class := { plain "jdk/internal/util/ArraysSupport" (some 0) with
  accessFlags := 33
  interfaces := #[]
  cf := some (fileOf pool12 21 #[] #[{ accessFlags := 2, nameIndex := 9, descriptorIndex := 19, attributes := #[] }] 33 16 #[] #[{ accessFlags := 24, nameIndex := 28, descriptorIndex := 29, attributes := #[] }, { accessFlags := 26, nameIndex := 38, descriptorIndex := 39, attributes := #[] }, { accessFlags := 25, nameIndex := 121, descriptorIndex := 25, attributes := #[] }, { accessFlags := 25, nameIndex := 131, descriptorIndex := 25, attributes := #[] }, { accessFlags := 25, nameIndex := 137, descriptorIndex := 25, attributes := #[] }, { accessFlags := 25, nameIndex := 143, descriptorIndex := 25, attributes := #[] }, { accessFlags := 25, nameIndex := 53, descriptorIndex := 25, attributes := #[] }, { accessFlags := 25, nameIndex := 24, descriptorIndex := 25, attributes := #[] }, { accessFlags := 25, nameIndex := 162, descriptorIndex := 25, attributes := #[] }, { accessFlags := 25, nameIndex := 187, descriptorIndex := 25, attributes := #[] }, { accessFlags := 26, nameIndex := 48, descriptorIndex := 25, attributes := #[] }, { accessFlags := 25, nameIndex := 277, descriptorIndex := 25, attributes := #[] }, { accessFlags := 25, nameIndex := 280, descriptorIndex := 25, attributes := #[] }, { accessFlags := 25, nameIndex := 282, descriptorIndex := 25, attributes := #[] }, { accessFlags := 25, nameIndex := 284, descriptorIndex := 25, attributes := #[] }, { accessFlags := 25, nameIndex := 286, descriptorIndex := 25, attributes := #[] }, { accessFlags := 25, nameIndex := 288, descriptorIndex := 25, attributes := #[] }, { accessFlags := 25, nameIndex := 290, descriptorIndex := 25, attributes := #[] }, { accessFlags := 25, nameIndex := 292, descriptorIndex := 25, attributes := #[] }, { accessFlags := 26, nameIndex := 108, descriptorIndex := 109, attributes := #[] }, { accessFlags := 25, nameIndex := 294, descriptorIndex := 25, attributes := #[] }])
  fields := #[{ name := "U", type := (.object "jdk/internal/misc/Unsafe"), accessFlags := 24, slot := 0, constantValue := 0 }, { name := "BIG_ENDIAN", type := .boolean, accessFlags := 26, slot := 1, constantValue := 0 }, { name := "LOG2_ARRAY_BOOLEAN_INDEX_SCALE", type := .int, accessFlags := 25, slot := 2, constantValue := 0 }, { name := "LOG2_ARRAY_BYTE_INDEX_SCALE", type := .int, accessFlags := 25, slot := 3, constantValue := 0 }, { name := "LOG2_ARRAY_CHAR_INDEX_SCALE", type := .int, accessFlags := 25, slot := 4, constantValue := 0 }, { name := "LOG2_ARRAY_SHORT_INDEX_SCALE", type := .int, accessFlags := 25, slot := 5, constantValue := 0 }, { name := "LOG2_ARRAY_INT_INDEX_SCALE", type := .int, accessFlags := 25, slot := 6, constantValue := 0 }, { name := "LOG2_ARRAY_LONG_INDEX_SCALE", type := .int, accessFlags := 25, slot := 7, constantValue := 0 }, { name := "LOG2_ARRAY_FLOAT_INDEX_SCALE", type := .int, accessFlags := 25, slot := 8, constantValue := 0 }, { name := "LOG2_ARRAY_DOUBLE_INDEX_SCALE", type := .int, accessFlags := 25, slot := 9, constantValue := 0 }, { name := "LOG2_BYTE_BIT_SIZE", type := .int, accessFlags := 26, slot := 10, constantValue := 0 }, { name := "T_BOOLEAN", type := .int, accessFlags := 25, slot := 11, constantValue := 0 }, { name := "T_CHAR", type := .int, accessFlags := 25, slot := 12, constantValue := 0 }, { name := "T_FLOAT", type := .int, accessFlags := 25, slot := 13, constantValue := 0 }, { name := "T_DOUBLE", type := .int, accessFlags := 25, slot := 14, constantValue := 0 }, { name := "T_BYTE", type := .int, accessFlags := 25, slot := 15, constantValue := 0 }, { name := "T_SHORT", type := .int, accessFlags := 25, slot := 16, constantValue := 0 }, { name := "T_INT", type := .int, accessFlags := 25, slot := 17, constantValue := 0 }, { name := "T_LONG", type := .int, accessFlags := 25, slot := 18, constantValue := 0 }, { name := "JLA", type := (.object "jdk/internal/access/JavaLangAccess"), accessFlags := 26, slot := 19, constantValue := 0 }, { name := "SOFT_MAX_ARRAY_LENGTH", type := .int, accessFlags := 25, slot := 20, constantValue := 0 }]
  methods := #[k12m0]
  instanceTypes := #[]
  staticTypes := #[(.object "jdk/internal/misc/Unsafe"), .boolean, .int, .int, .int, .int, .int, .int, .int, .int, .int, .int, .int, .int, .int, .int, .int, .int, .int, (.object "jdk/internal/access/JavaLangAccess"), .int]
  resolved := Array.replicate 378 none
  statics := none }

def pool13 : Array CpInfo := pool [(1, u "java/lang/Cloneable"), (0, .class_ 1), (0, u "java/lang/Object"), (0, .class_ 3)] 3

/-- java/lang/Cloneable -/
def k13 : Class := { plain "java/lang/Cloneable" (some 0) with
  accessFlags := 1537
  interfaces := #[]
  cf := some (fileOf pool13 2 #[] #[] 1537 4 #[] #[])
  fields := #[]
  methods := #[]
  instanceTypes := #[]
  staticTypes := #[]
  resolved := Array.replicate 8 none
  statics := none }

/-- the primitive byte -/
def k14 : Class := { plain "byte" none with kind := .primitive 'B', accessFlags := 0x411 }
/-- [B -/
def k15 : Class := { plain "[B" (some 0) with kind := .array 14 .byte, interfaces := #[13, 2], accessFlags := 1041 }

/-- the primitive char -/
def k16 : Class := { plain "char" none with kind := .primitive 'C', accessFlags := 0x411 }
/-- [C -/
def k17 : Class := { plain "[C" (some 0) with kind := .array 16 .char, interfaces := #[13, 2], accessFlags := 1041 }

/-- the primitive int -/
def k18 : Class := { plain "int" none with kind := .primitive 'I', accessFlags := 0x411 }
/-- [I -/
def k19 : Class := { plain "[I" (some 0) with kind := .array 18 .int, interfaces := #[13, 2], accessFlags := 1041 }

/-- [Ljava/lang/String; -/
def k20 : Class := { plain "[Ljava/lang/String;" (some 0) with kind := .array 7 (.object "java/lang/String"), interfaces := #[13, 2], accessFlags := 1041 }

def heap : Heap := #[{ cls := 7, slots := #[.long 0, .int 1, .null, .int 0, .null, .int 0, .int 0], vm := .statics 7 },
  { cls := 11, slots := #[.null, .null, .null], vm := .statics 11 }]
def classes : Array Class := #[k0, k1, k2, k3, k4, k5, k6, k7, k8, k9, k10, k11, k12, k13, k14, k15, k16, k17, k18, k19, k20]
def interned : List (Array UInt16 × Addr) := []
def slotsUsed : Nat := 10
def theMethod : MethodId := ⟨1, 1⟩
def args0 : Array Value := #[.int 5, .int 5, .int 5, .int 5, .int 5]
def aboutOver (below : List Frame) : State where
  vm := { classes := classes, interned := interned.toArray }
  heap := heap
  slotsUsed := slotsUsed
  threads := #[{ frames := .invoking theMethod args0 :: below }]
def below0 : List Frame := [.native { method := ⟨0, 0⟩, args := #[] }]
def about1 : State := aboutOver below0
def p0 : Program := .bare "" "" ""
def e0 : Env := launch0.env 0 0 0
theorem w_frames : about1.frames = Frame.invoking theMethod args0 :: below0 := rfl
set_option maxRecDepth 65536 in
theorem w_args : argsFit about1.vm theMethod args0 = true := by decide +kernel
set_option maxRecDepth 65536 in
theorem w_heap : heapFits about1 = true := by decide +kernel
set_option maxRecDepth 65536 in
theorem w_runnable : about1.curStatus? = some .runnable := by decide +kernel
set_option maxRecDepth 65536 in
theorem w_alone : about1.alone = true := by decide +kernel
set_option maxRecDepth 65536 in
theorem w_named : about1.methodNamed? x = some theMethod := by decide +kernel
set_option maxRecDepth 65536 in
theorem w_hears : about1.hears theMethod below0 = true := by decide +kernel
set_option maxRecDepth 65536 in
theorem w_ripe : about1.ripe theMethod args0 below0 = true := by decide +kernel
theorem w_running : about1.status = .running := rfl
set_option maxRecDepth 65536 in
theorem w_room : about1.hasRoom e0.platform room_1 = true :=
  launch0.hasRoom_least _ room_1 (by decide +kernel) (by decide +kernel) (by decide +kernel) (by decide +kernel) (by decide +kernel) (by decide +kernel)
theorem allAtoms_all (ts : List Jvm.Cond) (a : Array Jvm.Value) (st : Jvm.State) : (allAtoms ts).before a st = ts.all (fun c => c.before a st) := by
  induction ts with
  | nil => rfl
  | cons c t ih =>
    show (Jvm.Cond.and c (allAtoms t)).before a st = _
    rw [Jvm.Cond.before_and, ih, List.all_cons]
def words1 : List Jvm.Cond := Jvm.Cond.code x code maxLocals ret :: tables_1
/-- a 'code' word, met by the world's own term for the bytes: nothing is compared byte by byte -/
theorem code_word {y : MethodName} {bytes : ByteArray} {mx : Nat} {rt : Option FieldType} {a : Array Value} {s : State} {m : MethodId} {meth : Method} {c : Code} (h1 : s.methodNamed? y = some m) (h2 : s.vm.method? m = some meth) (h3 : meth.code = some c) (h4 : c.code = bytes)
    (h5 : (c.maxLocals == mx && c.exceptionTable.isEmpty && decide (c.maxStack ≤ mostOperands) && decide (meth.sig.returnType = rt) && !meth.locks && decide (parseMethodDescriptor y.desc = some meth.sig)) = true) : (Jvm.Cond.code y bytes mx rt).before a s = true := by
  simp only [Bool.and_eq_true, beq_iff_eq, Bool.not_eq_true', decide_eq_true_eq] at h5
  obtain ⟨⟨⟨⟨⟨g1, g2⟩, g3⟩, g4⟩, g5⟩, g6⟩ := h5
  simp [Cond.before, Cond.holds, Cond.value, h1, h2, h3, h4, g1, g2, g3, g4, g5, g6]
def isCode : Jvm.Cond → Bool
  | .code _ _ _ _ => true
  | _ => false
theorem all_split {L : List Jvm.Cond} {P : Jvm.Cond → Bool} (h1 : L.all (fun c => isCode c || P c) = true) (h2 : ∀ c ∈ L.filter isCode, P c = true) : L.all P = true := by
  refine List.all_eq_true.mpr fun c hc => ?_
  have h := List.all_eq_true.mp h1 c hc
  rcases Bool.eq_false_or_eq_true (isCode c) with hi | hi
  · exact h2 c (List.mem_filter.mpr ⟨hc, hi⟩)
  · simpa [hi] using h
set_option maxRecDepth 65536 in
theorem w_c0 : (Jvm.Cond.code x code maxLocals ret).before args0 about1 = true := code_word (m := ⟨1, 1⟩) (meth := k1m1) (c := k1c1) (by decide +kernel) rfl rfl rfl (by decide +kernel)
set_option maxRecDepth 65536 in
theorem w_c1 : (Jvm.Cond.code ({ cls := "java/lang/String", name := "<init>", desc := "([C)V" } : Jvm.MethodName) jdk_42_method_3_code (2 : Nat) (Option.none : Option Jvm.ClassFile.FieldType)).before args0 about1 = true := code_word (m := ⟨7, 1⟩) (meth := k7m1) (c := k7c1) (by decide +kernel) rfl rfl rfl (by decide +kernel)
set_option maxRecDepth 65536 in
theorem w_c2 : (Jvm.Cond.code ({ cls := "java/lang/String", name := "<init>", desc := "([CIILjava/lang/Void;)V" } : Jvm.MethodName) jdk_42_method_149_code (6 : Nat) (Option.none : Option Jvm.ClassFile.FieldType)).before args0 about1 = true := code_word (m := ⟨7, 2⟩) (meth := k7m2) (c := k7c2) (by decide +kernel) rfl rfl rfl (by decide +kernel)
set_option maxRecDepth 65536 in
theorem w_c3 : (Jvm.Cond.code ({ cls := "java/lang/Object", name := "<init>", desc := "()V" } : Jvm.MethodName) object_method_1_code (1 : Nat) (Option.none : Option Jvm.ClassFile.FieldType)).before args0 about1 = true := code_word (m := ⟨0, 0⟩) (meth := k0m0) (c := k0c0) (by decide +kernel) rfl rfl rfl (by decide +kernel)
set_option maxRecDepth 65536 in
theorem w_c4 : (Jvm.Cond.code ({ cls := "java/lang/StringUTF16", name := "compress", desc := "([CII)[B" } : Jvm.MethodName) jdk_52_method_16_code (6 : Nat) (Option.some (Jvm.ClassFile.FieldType.array Jvm.ClassFile.FieldType.byte))).before args0 about1 = true := code_word (m := ⟨8, 2⟩) (meth := k8m2) (c := k8c2) (by decide +kernel) rfl rfl rfl (by decide +kernel)
set_option maxRecDepth 65536 in
theorem w_c5 : (Jvm.Cond.code ({ cls := "java/lang/StringUTF16", name := "compress", desc := "([CI[BII)I" } : Jvm.MethodName) jdk_52_method_21_code (7 : Nat) (Option.some Jvm.ClassFile.FieldType.int)).before args0 about1 = true := code_word (m := ⟨8, 3⟩) (meth := k8m3) (c := k8c3) (by decide +kernel) rfl rfl rfl (by decide +kernel)
set_option maxRecDepth 65536 in
theorem w_c6 : (Jvm.Cond.code ({ cls := "java/lang/StringUTF16", name := "coderFromArrayLen", desc := "([BI)B" } : Jvm.MethodName) jdk_52_method_15_code (2 : Nat) (Option.some Jvm.ClassFile.FieldType.byte)).before args0 about1 = true := code_word (m := ⟨8, 1⟩) (meth := k8m1) (c := k8c1) (by decide +kernel) rfl rfl rfl (by decide +kernel)
set_option maxRecDepth 65536 in
theorem w_c7 : (Jvm.Cond.code ({ cls := "com/example/crosstide/crosstide/fix/FixMessage", name := "<init>", desc := "([I[Ljava/lang/String;)V" } : Jvm.MethodName) prog_57_method_1_code (3 : Nat) (Option.none : Option Jvm.ClassFile.FieldType)).before args0 about1 = true := code_word (m := ⟨9, 0⟩) (meth := k9m0) (c := k9c0) (by decide +kernel) rfl rfl rfl (by decide +kernel)
set_option maxRecDepth 65536 in
theorem w_c8 : (Jvm.Cond.code ({ cls := "com/example/crosstide/crosstide/fix/FixMessage", name := "get", desc := "(I)Ljava/lang/String;" } : Jvm.MethodName) prog_57_method_3_code (3 : Nat) (Option.some (Jvm.ClassFile.FieldType.object "java/lang/String"))).before args0 about1 = true := code_word (m := ⟨9, 1⟩) (meth := k9m1) (c := k9c1) (by decide +kernel) rfl rfl rfl (by decide +kernel)
def codes1 : List Jvm.Cond := [Jvm.Cond.code x code maxLocals ret, Jvm.Cond.code ({ cls := "java/lang/String", name := "<init>", desc := "([C)V" } : Jvm.MethodName) jdk_42_method_3_code (2 : Nat) (Option.none : Option Jvm.ClassFile.FieldType), Jvm.Cond.code ({ cls := "java/lang/String", name := "<init>", desc := "([CIILjava/lang/Void;)V" } : Jvm.MethodName) jdk_42_method_149_code (6 : Nat) (Option.none : Option Jvm.ClassFile.FieldType), Jvm.Cond.code ({ cls := "java/lang/Object", name := "<init>", desc := "()V" } : Jvm.MethodName) object_method_1_code (1 : Nat) (Option.none : Option Jvm.ClassFile.FieldType), Jvm.Cond.code ({ cls := "java/lang/StringUTF16", name := "compress", desc := "([CII)[B" } : Jvm.MethodName) jdk_52_method_16_code (6 : Nat) (Option.some (Jvm.ClassFile.FieldType.array Jvm.ClassFile.FieldType.byte)), Jvm.Cond.code ({ cls := "java/lang/StringUTF16", name := "compress", desc := "([CI[BII)I" } : Jvm.MethodName) jdk_52_method_21_code (7 : Nat) (Option.some Jvm.ClassFile.FieldType.int), Jvm.Cond.code ({ cls := "java/lang/StringUTF16", name := "coderFromArrayLen", desc := "([BI)B" } : Jvm.MethodName) jdk_52_method_15_code (2 : Nat) (Option.some Jvm.ClassFile.FieldType.byte), Jvm.Cond.code ({ cls := "com/example/crosstide/crosstide/fix/FixMessage", name := "<init>", desc := "([I[Ljava/lang/String;)V" } : Jvm.MethodName) prog_57_method_1_code (3 : Nat) (Option.none : Option Jvm.ClassFile.FieldType), Jvm.Cond.code ({ cls := "com/example/crosstide/crosstide/fix/FixMessage", name := "get", desc := "(I)Ljava/lang/String;" } : Jvm.MethodName) prog_57_method_3_code (3 : Nat) (Option.some (Jvm.ClassFile.FieldType.object "java/lang/String"))]
set_option maxRecDepth 65536 in
theorem codes_eq : words1.filter isCode = codes1 := rfl
theorem w_codes : ∀ c ∈ words1.filter isCode, c.before args0 about1 = true := by
  rw [codes_eq]
  intro c hc
  simp only [codes1, List.mem_cons, List.not_mem_nil, or_false] at hc
  rcases hc with rfl | rfl | rfl | rfl | rfl | rfl | rfl | rfl | rfl
  · exact w_c0
  · exact w_c1
  · exact w_c2
  · exact w_c3
  · exact w_c4
  · exact w_c5
  · exact w_c6
  · exact w_c7
  · exact w_c8
set_option maxRecDepth 65536 in
theorem w_t1 : (words1.take 24).all (fun c => isCode c || c.before args0 about1) = true := by decide +kernel
set_option maxRecDepth 65536 in
theorem w_t2 : ((words1.drop 24).take 24).all (fun c => isCode c || c.before args0 about1) = true := by decide +kernel
set_option maxRecDepth 65536 in
theorem w_t3 : ((words1.drop 24).drop 24).all (fun c => isCode c || c.before args0 about1) = true := by decide +kernel
theorem w_tables : (allAtoms (Jvm.Cond.code x code maxLocals ret :: tables_1)).before args0 about1 = true := by
  rw [allAtoms_all]
  show words1.all (fun c => c.before args0 about1) = true
  refine all_split ?_ w_codes
  rw [← List.take_append_drop 24 words1, List.all_append, w_t1, ← List.take_append_drop 24 (words1.drop 24), List.all_append, w_t2, w_t3]
  rfl
set_option maxRecDepth 65536 in
theorem w_rest : rest_1_c.before args0 about1 = true := by decide +kernel
set_option maxRecDepth 65536 in
theorem w_case : (Jvm.Cond.and given_1 narrow_1).before args0 about1 = true := by decide +kernel
theorem w_applies : (headSpec (Jvm.Cond.code x code maxLocals ret :: tables_1) room_1).applies x e0.platform about1 = true :=
  (Spec.applies_iff w_frames).mpr ⟨w_running, w_runnable, w_alone, w_named, w_hears, w_ripe, w_room, w_tables⟩
theorem atStart : AtStart classFile x code maxLocals ret World_1 tables_1 room_1 Calls_1 rest_1 Pre_1 launch0 p0 e0 about1 theMethod args0 below0 :=
  ⟨lists_1, trivial, launch0.admits_env _ _ _, launch0.least_env, fairChoices_fair.cas, fairChoices_fair.clock, w_frames, w_args, w_heap, w_applies, trivial, w_rest, w_case⟩
end start1
theorem witness_1 : WitnessClaimed_1 := ⟨start1.p0, start1.e0, start1.about1, start1.theMethod, start1.args0, start1.below0, start1.atStart⟩
end Jvm.Pilot.@@N@@

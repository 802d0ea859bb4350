import JvmDerived
import JvmDerived.Pilot.@@N@@Statement
import JvmDerived.Pilot.@@N@@Code
set_option linter.unusedVariables false
set_option linter.unusedSimpArgs false
namespace Jvm.Pilot.@@N@@
open Jvm Jvm.ClassFile Sem Op Lib Jvm.Free Jvm.Stand Jvm.LawKit Jvm.RoadKit Bundle Jvm.Pilot.@@N@@.Jvm.D
def Go (p : Program) (e : Env) (below : List Frame) (s : State) (Q : Option Value → Heap → List Loc → Prop) (C S : Nat) (V : State) : Prop :=
  ∃ (U : State) (o : Outcome), Steps p.tables e below V U ∧ U.status = .running ∧ Ended U below o ∧ ∃ v L, o = .returned v ∧ Q v U.heap L ∧ FrameEnd s o U L C S
def Ga (p : Program) (e : Env) (below : List Frame) (s : State) (Q : Option Value → Heap → List Loc → Prop) (C S : Nat) (T : State) (m : MethodId) (pc : Nat) (Ls : Array Slot) (st : List Value) : Prop :=
  Go p e below s Q C S (T.setTop (mkF m pc Ls st))
abbrev Ct (l : Launch) (Z : State) (y : MethodName) (bytes : ByteArray) (maxL : Nat) (ret : Option FieldType) (ws : List Jvm.Cond) (rm : Room) (as' : Array Value) (h0 : Heap) (Q : Option Value → Heap → List Loc → Prop) : Prop :=
  MetFree l y (head1 (Jvm.Cond.code y bytes maxL ret :: ws) rm) (fun a U => a = as' ∧ Z.Warmed39 U.vm ∧ U.heap = h0) (fun _ _ _ _ _ => True) (fun _ U o U' => ∃ v L, o = .returned v ∧ Q v U'.heap L ∧ FrameEnd U o U' L rm.cells rm.slots)
section GoKit
variable {p : Program} {l : Launch} {e : Env} {R : Room} {s : State} {m : MethodId} {args : Array Value} {below : List Frame} {meth : Method} {c : Code} {T T' : State} {locs : List Loc} {cells slots : Nat} {Q : Option Value → Heap → List Loc → Prop} {C S : Nat} {Z : State} {a0 : Array Value} {h : Heap} {pc q pc' : Nat} {Ls Ls' : Array Slot} {st st' : List Value} {own : String}
theorem Ga.stp (k : ∀ t, Steps p.tables e below (T'.setTop (mkF m pc' Ls' st')) t → Steps p.tables e below (T.setTop (mkF m pc Ls st)) t) (g : Ga p e below s Q C S T' m pc' Ls' st') : Ga p e below s Q C S T m pc Ls st := by
  obtain ⟨U, o, h, r⟩ := g
  exact ⟨U, o, k _ h, r⟩
theorem own_body {y : MethodName} {bytes : ByteArray} {maxL : Nat} {ret : Option FieldType} {ws : List Jvm.Cond} {rm : Room} {h0 : Heap} {as' : Array Value} (hpl : plainFor y = true) (hef : ∀ m, entryFrame m as' maxL = mkF m 0 Ls [])
    (body : ∀ (p : Program) (e : Env) (s : State) (m : MethodId) (below : List Frame) (meth : Method) (c : Code) (T : State), p.tables.exec = Jvm.exec → c.code = bytes → c.maxLocals = maxL → Z.Warmed39 s.vm → s.vm.findClass y.cls = some m.cls → meth.name = y.name → meth.sig.returnType = ret → meth.locks = false →
      Stand p l e rm s m as' below meth c T [] 0 0 → T.heap = h0 → Ga p e below s Q rm.cells rm.slots T m 0 Ls []) : Ct l Z y bytes maxL ret ws rm as' h0 Q := by
  refine MetFree.of_bodySF hpl hisR ?_
  intro p e s m args below meth c s₁ Bd hml0 hP hK
  obtain ⟨rfl, hZ, hh⟩ := hP
  have X0 : Stand p l e rm s m args below meth c s₁ [] 0 0 := Stand.of_body Bd
  have e0 : s₁.heap = h0 := by rw [← hh, Bd.state]; rfl
  obtain ⟨U, o, g1, g2⟩ := body p e s m below meth c s₁ Bd.exec Bd.bytes hml0 hZ (findClass_of_methodNamed Bd.named) (name_of_methodNamed Bd.named Bd.method).1 Bd.returns (BodyLoose.notSynchronized Bd) X0 e0
  exact ⟨U, o, castTop (hef m) g1, g2⟩
theorem Ga.out (X : Stand p l e R s m args below meth c T locs cells slots) {v : Option Value} (hlk : meth.locks = false) (hv : meth.sig.returnType = none → v = none) (hc : cells ≤ C) (hs : slots ≤ S) (hq : Q v T.heap locs)
    (k : ∀ fs, (∀ (f : JFrame) (acts : List Action), f.method = m → f.locked = none → f.entered = [] → (doReturn e (T.setTop f) acts v).1 = T.setFrames fs) → Steps p.tables e below (T.setTop (mkF m pc Ls st)) (T.setFrames fs)) : Ga p e below s Q C S T m pc Ls st := by
  obtain ⟨fs, hr, hrun, hended, hW, hsame⟩ := X.leave (v := v) hv hlk
  exact ⟨_, _, k fs hr, hrun, hended, _, _, rfl, hq, ⟨_, rfl⟩, hW, hsame.mono hc hs⟩
theorem g_iloadN (X : Stand p l e R s m args below meth c T locs cells slots) (hx : p.tables.exec = Jvm.exec) {k : Fin 4} {v : Int32} (hd : decode c.code pc = .ok (.iload_n k, 1)) (hp : pc + 1 = q) (hl : Ls[k.val]? = some (.val (.int v))) (g : Ga p e below s Q C S T m q Ls (.int v :: st)) : Ga p e below s Q C S T m pc Ls st := by
  subst hp
  exact Ga.stp (fun _ k => XS.iloadN X.here hx rfl hd hl k) g
theorem g_iload (X : Stand p l e R s m args below meth c T locs cells slots) (hx : p.tables.exec = Jvm.exec) {k : Nat} {v : Int32} (hd : decode c.code pc = .ok (.iload k, 2)) (hp : pc + 2 = q) (hl : Ls[k]? = some (.val (.int v))) (g : Ga p e below s Q C S T m q Ls (.int v :: st)) : Ga p e below s Q C S T m pc Ls st := by
  subst hp
  exact Ga.stp (fun _ k => XS.iload X.here hx rfl hd hl k) g
theorem g_aloadN (X : Stand p l e R s m args below meth c T locs cells slots) (hx : p.tables.exec = Jvm.exec) {k : Fin 4} {v : Value} (hd : decode c.code pc = .ok (.aload_n k, 1)) (hp : pc + 1 = q) (hl : Ls[k.val]? = some (.val v)) (hv : v.isRef = true) (g : Ga p e below s Q C S T m q Ls (v :: st)) : Ga p e below s Q C S T m pc Ls st := by
  subst hp
  exact Ga.stp (fun _ k => XS.aloadN X.here hx rfl hd hl hv k) g
theorem g_aload (X : Stand p l e R s m args below meth c T locs cells slots) (hx : p.tables.exec = Jvm.exec) {k : Nat} {v : Value} (hd : decode c.code pc = .ok (.aload k, 2)) (hp : pc + 2 = q) (hl : Ls[k]? = some (.val v)) (hv : v.isRef = true) (g : Ga p e below s Q C S T m q Ls (v :: st)) : Ga p e below s Q C S T m pc Ls st := by
  subst hp
  exact Ga.stp (fun _ k => XS.aload X.here hx rfl hd hl hv k) g
theorem g_istoreN (X : Stand p l e R s m args below meth c T locs cells slots) (hx : p.tables.exec = Jvm.exec) {k : Fin 4} {x : Int32} (hd : decode c.code pc = .ok (.istore_n k, 1)) (hp : pc + 1 = q) (hl : storeLocals Ls k.val (.int x) = some Ls') (g : Ga p e below s Q C S T m q Ls' st) : Ga p e below s Q C S T m pc Ls (.int x :: st) := by
  subst hp
  exact Ga.stp (fun _ k => XS.istoreN X.here hx rfl hd rfl hl k) g
theorem g_istore (X : Stand p l e R s m args below meth c T locs cells slots) (hx : p.tables.exec = Jvm.exec) {k : Nat} {x : Int32} (hd : decode c.code pc = .ok (.istore k, 2)) (hp : pc + 2 = q) (hl : storeLocals Ls k (.int x) = some Ls') (g : Ga p e below s Q C S T m q Ls' st) : Ga p e below s Q C S T m pc Ls (.int x :: st) := by
  subst hp
  exact Ga.stp (fun _ k => XS.istore X.here hx rfl hd rfl hl k) g
theorem g_astoreN (X : Stand p l e R s m args below meth c T locs cells slots) (hx : p.tables.exec = Jvm.exec) {k : Fin 4} {x : Value} (hd : decode c.code pc = .ok (.astore_n k, 1)) (hp : pc + 1 = q) (hv : x.isRef = true) (hl : storeLocals Ls k.val x = some Ls') (g : Ga p e below s Q C S T m q Ls' st) : Ga p e below s Q C S T m pc Ls (x :: st) := by
  subst hp
  exact Ga.stp (fun _ k => XS.astoreN X.here hx rfl hd rfl hv hl k) g
theorem g_astore (X : Stand p l e R s m args below meth c T locs cells slots) (hx : p.tables.exec = Jvm.exec) {k : Nat} {x : Value} (hd : decode c.code pc = .ok (.astore k, 2)) (hp : pc + 2 = q) (hv : x.isRef = true) (hl : storeLocals Ls k x = some Ls') (g : Ga p e below s Q C S T m q Ls' st) : Ga p e below s Q C S T m pc Ls (x :: st) := by
  subst hp
  exact Ga.stp (fun _ k => XS.astore X.here hx rfl hd rfl hv hl k) g
theorem g_iconst (X : Stand p l e R s m args below meth c T locs cells slots) (hx : p.tables.exec = Jvm.exec) {i : Int} {r : Int32} (hd : decode c.code pc = .ok (.iconst i, 1)) (hp : pc + 1 = q) (hr : Int32.ofInt i = r) (g : Ga p e below s Q C S T m q Ls (.int r :: st)) : Ga p e below s Q C S T m pc Ls st := by
  subst hp hr
  exact Ga.stp (fun _ k => XS.iconst X.here hx rfl hd k) g
theorem g_bipush (X : Stand p l e R s m args below meth c T locs cells slots) (hx : p.tables.exec = Jvm.exec) {i : Int} {r : Int32} (hd : decode c.code pc = .ok (.bipush i, 2)) (hp : pc + 2 = q) (hr : (Int8.ofInt i).toInt32 = r) (g : Ga p e below s Q C S T m q Ls (.int r :: st)) : Ga p e below s Q C S T m pc Ls st := by
  subst hp hr
  exact Ga.stp (fun _ k => XS.bipush X.here hx rfl hd k) g
theorem g_aconst_null (X : Stand p l e R s m args below meth c T locs cells slots) (hx : p.tables.exec = Jvm.exec) (hd : decode c.code pc = .ok (.aconst_null, 1)) (hp : pc + 1 = q)  (g : Ga p e below s Q C S T m q Ls (.null :: st)) : Ga p e below s Q C S T m pc Ls st := by
  subst hp
  exact Ga.stp (fun _ k => XS.aconstNull X.here hx rfl hd k) g
theorem g_iadd (X : Stand p l e R s m args below meth c T locs cells slots) (hx : p.tables.exec = Jvm.exec) {x y r : Int32} (hd : decode c.code pc = .ok (.iadd, 1)) (hp : pc + 1 = q) (hr : x + y = r) (g : Ga p e below s Q C S T m q Ls (.int r :: st)) : Ga p e below s Q C S T m pc Ls (.int y :: .int x :: st) := by
  subst hp hr
  exact Ga.stp (fun _ k => XS.iadd X.here hx rfl hd rfl k) g
theorem g_iand (X : Stand p l e R s m args below meth c T locs cells slots) (hx : p.tables.exec = Jvm.exec) {x y r : Int32} (hd : decode c.code pc = .ok (.iand, 1)) (hp : pc + 1 = q) (hr : x &&& y = r) (g : Ga p e below s Q C S T m q Ls (.int r :: st)) : Ga p e below s Q C S T m pc Ls (.int y :: .int x :: st) := by
  subst hp hr
  exact Ga.stp (fun _ k => XS.iand X.here hx rfl hd rfl k) g
theorem g_ishr (X : Stand p l e R s m args below meth c T locs cells slots) (hx : p.tables.exec = Jvm.exec) {x y r : Int32} (hd : decode c.code pc = .ok (.ishr, 1)) (hp : pc + 1 = q) (hr : x >>> (y &&& 31) = r) (g : Ga p e below s Q C S T m q Ls (.int r :: st)) : Ga p e below s Q C S T m pc Ls (.int y :: .int x :: st) := by
  subst hp hr
  exact Ga.stp (fun _ k => XS.ishr X.here hx rfl hd rfl k) g
theorem g_iushr (X : Stand p l e R s m args below meth c T locs cells slots) (hx : p.tables.exec = Jvm.exec) {x y r : Int32} (hd : decode c.code pc = .ok (.iushr, 1)) (hp : pc + 1 = q) (hr : (x.toUInt32 >>> (y &&& 31).toUInt32).toInt32 = r) (g : Ga p e below s Q C S T m q Ls (.int r :: st)) : Ga p e below s Q C S T m pc Ls (.int y :: .int x :: st) := by
  subst hp hr
  exact Ga.stp (fun _ k => XS.iushr X.here hx rfl hd rfl k) g
theorem g_irem (X : Stand p l e R s m args below meth c T locs cells slots) (hx : p.tables.exec = Jvm.exec) {x y r : Int32} (hd : decode c.code pc = .ok (.irem, 1)) (hp : pc + 1 = q) (hy : y ≠ 0) (hr : x % y = r) (g : Ga p e below s Q C S T m q Ls (.int r :: st)) : Ga p e below s Q C S T m pc Ls (.int y :: .int x :: st) := by
  subst hp hr
  exact Ga.stp (fun _ k => iremM X hx (g := mkF m pc Ls (.int y :: .int x :: st)) rfl hd rfl hy k) g
theorem g_i2b (X : Stand p l e R s m args below meth c T locs cells slots) (hx : p.tables.exec = Jvm.exec) {x : Int32} {r : Int32} (hd : decode c.code pc = .ok (.i2b, 1)) (hp : pc + 1 = q) (hr : x.toInt8.toInt32 = r) (g : Ga p e below s Q C S T m q Ls (.int r :: st)) : Ga p e below s Q C S T m pc Ls (.int x :: st) := by
  subst hp hr
  exact Ga.stp (fun _ k => XS.i2b X.here hx rfl hd rfl k) g
theorem g_pop (X : Stand p l e R s m args below meth c T locs cells slots) (hx : p.tables.exec = Jvm.exec) {x : Value} (hd : decode c.code pc = .ok (.pop, 1)) (hp : pc + 1 = q) (hc : x.category = 1) (g : Ga p e below s Q C S T m q Ls st) : Ga p e below s Q C S T m pc Ls (x :: st) := by
  subst hp
  exact Ga.stp (fun _ k => XS.pop X.here hx rfl hd rfl hc k) g
theorem g_dup (X : Stand p l e R s m args below meth c T locs cells slots) (hx : p.tables.exec = Jvm.exec) {x : Value} (hd : decode c.code pc = .ok (.dup, 1)) (hp : pc + 1 = q) (hc : x.category = 1) (g : Ga p e below s Q C S T m q Ls (x :: x :: st)) : Ga p e below s Q C S T m pc Ls (x :: st) := by
  subst hp
  exact Ga.stp (fun _ k => XS.dup X.here hx rfl hd rfl hc k) g
theorem g_dup_x1 (X : Stand p l e R s m args below meth c T locs cells slots) (hx : p.tables.exec = Jvm.exec) {x y : Value} (hd : decode c.code pc = .ok (.dup_x1, 1)) (hp : pc + 1 = q) (hc : x.category = 1) (hc' : y.category = 1) (g : Ga p e below s Q C S T m q Ls (x :: y :: x :: st)) : Ga p e below s Q C S T m pc Ls (x :: y :: st) := by
  subst hp
  exact Ga.stp (fun _ k => XS.dupX1 X.here hx rfl hd rfl hc hc' k) g
theorem g_goto (X : Stand p l e R s m args below meth c T locs cells slots) (hx : p.tables.exec = Jvm.exec) {o : Int} (hd : decode c.code pc = .ok (.goto o, 3)) (ho : 0 ≤ (pc : Int) + o) (hp : ((pc : Int) + o).toNat = q) (g : Ga p e below s Q C S T m q Ls st) : Ga p e below s Q C S T m pc Ls st :=
  Ga.stp (fun _ k => XS.goto X.here hx rfl rfl hd ho hp k) g
theorem g_ifY (X : Stand p l e R s m args below meth c T locs cells slots) (hx : p.tables.exec = Jvm.exec) {cd : ClassFile.Cond} {x : Int32} {o : Int} (hd : decode c.code pc = .ok (.ifCond cd o, 3)) (hc : ifCond.holds cd x = true) (ho : 0 ≤ (pc : Int) + o) (hp : ((pc : Int) + o).toNat = q) (g : Ga p e below s Q C S T m q Ls st) : Ga p e below s Q C S T m pc Ls (.int x :: st) :=
  Ga.stp (fun _ k => XS.ifYes X.here hx rfl rfl hd rfl hc ho hp k) g
theorem g_ifN (X : Stand p l e R s m args below meth c T locs cells slots) (hx : p.tables.exec = Jvm.exec) {cd : ClassFile.Cond} {x : Int32} {o : Int} (hd : decode c.code pc = .ok (.ifCond cd o, 3)) (hp : pc + 3 = q) (hc : ifCond.holds cd x = false) (g : Ga p e below s Q C S T m q Ls st) : Ga p e below s Q C S T m pc Ls (.int x :: st) := by
  subst hp
  exact Ga.stp (fun _ k => XS.ifNo X.here hx rfl hd rfl hc k) g
theorem g_icmpY (X : Stand p l e R s m args below meth c T locs cells slots) (hx : p.tables.exec = Jvm.exec) {cd : ClassFile.Cond} {x y : Int32} {o : Int} (hd : decode c.code pc = .ok (.if_icmp cd o, 3)) (hc : if_icmp.holds cd x y = true) (ho : 0 ≤ (pc : Int) + o) (hp : ((pc : Int) + o).toNat = q) (g : Ga p e below s Q C S T m q Ls st) : Ga p e below s Q C S T m pc Ls (.int y :: .int x :: st) :=
  Ga.stp (fun _ k => XS.icmpYes X.here hx rfl rfl hd rfl hc ho hp k) g
theorem g_icmpN (X : Stand p l e R s m args below meth c T locs cells slots) (hx : p.tables.exec = Jvm.exec) {cd : ClassFile.Cond} {x y : Int32} {o : Int} (hd : decode c.code pc = .ok (.if_icmp cd o, 3)) (hp : pc + 3 = q) (hc : if_icmp.holds cd x y = false) (g : Ga p e below s Q C S T m q Ls st) : Ga p e below s Q C S T m pc Ls (.int y :: .int x :: st) := by
  subst hp
  exact Ga.stp (fun _ k => XS.icmpNo X.here hx rfl hd rfl hc k) g
theorem g_ifnonnullY (X : Stand p l e R s m args below meth c T locs cells slots) (hx : p.tables.exec = Jvm.exec) {b : Addr} {o : Int} (hd : decode c.code pc = .ok (.ifnonnull o, 3)) (ho : 0 ≤ (pc : Int) + o) (hp : ((pc : Int) + o).toNat = q) (g : Ga p e below s Q C S T m q Ls st) : Ga p e below s Q C S T m pc Ls ((.ref b) :: st) :=
  Ga.stp (fun _ k => XS.ifnonnullYes X.here hx rfl rfl hd rfl ho hp k) g
theorem g_acmp (X : Stand p l e R s m args below meth c T locs cells slots) (hx : p.tables.exec = Jvm.exec) {cd : ClassFile.ACond} {x y : Value} {o : Int} {same : Bool} (hd : decode c.code pc = .ok (.if_acmp cd o, 3)) (h1 : x.isRef = true) (h2 : y.isRef = true) (hq : decide (x = y) = same) (ho : 0 ≤ (pc : Int) + o) (hp : q = if acV cd same = true then ((pc : Int) + o).toNat else pc + 3) (g : Ga p e below s Q C S T m q Ls st) : Ga p e below s Q C S T m pc Ls (y :: x :: st) :=
  Ga.stp (fun _ k => Jvm.RoadKit.acmp (g := mkF m pc Ls (y :: x :: st)) X hx rfl h1 h2 rfl hd rfl hq ho hp k) g
theorem g_retI (X : Stand p l e R s m args below meth c T locs cells slots) (hx : p.tables.exec = Jvm.exec) {z : Int32} (hret : meth.sig.returnType = some .int) (hlk : meth.locks = false) (hd : decode c.code pc = .ok (.ireturn, 1)) (hc : cells ≤ C) (hs : slots ≤ S) (hq : Q (some (.int z)) T.heap locs) : Ga p e below s Q C S T m pc Ls (.int z :: st) :=
  Ga.out X hlk (fun h => by rw [hret] at h; cases h) hc hs hq fun fs hr => retOut X hx hret rfl (Or.inl ⟨rfl, Or.inl rfl, z, rfl⟩) hd hr
theorem g_retN (X : Stand p l e R s m args below meth c T locs cells slots) (hx : p.tables.exec = Jvm.exec) {z r : Int32} {t : FieldType} (hret : meth.sig.returnType = some t) (ht : t = .boolean ∨ t = .byte ∨ t = .char ∨ t = .short) (hlk : meth.locks = false) (hd : decode c.code pc = .ok (.ireturn, 1)) (hr : nar t z = r) (hc : cells ≤ C) (hs : slots ≤ S) (hq : Q (some (.int r)) T.heap locs) : Ga p e below s Q C S T m pc Ls (.int z :: st) := by
  subst hr
  exact Ga.out X hlk (fun h => by rw [hret] at h; cases h) hc hs hq fun fs hr => retN X hx hret ht hd hr
theorem g_retR (X : Stand p l e R s m args below meth c T locs cells slots) (hx : p.tables.exec = Jvm.exec) {w : Value} {t : FieldType} (hret : meth.sig.returnType = some t) (hlk : meth.locks = false) (ht : t.isReference = true) (hn : narrow t w = w) (hw : w.isRef = true) (hd : decode c.code pc = .ok (.areturn, 1)) (hc : cells ≤ C) (hs : slots ≤ S) (hq : Q (some w) T.heap locs) : Ga p e below s Q C S T m pc Ls (w :: st) :=
  Ga.out X hlk (fun h => by rw [hret] at h; cases h) hc hs hq fun fs hr => retOut X hx hret hn (Or.inr (Or.inr (Or.inr (Or.inr ⟨rfl, ht, hw⟩)))) hd hr
theorem g_ret (X : Stand p l e R s m args below meth c T locs cells slots) (hx : p.tables.exec = Jvm.exec) (hret : meth.sig.returnType = none) (hlk : meth.locks = false) (hd : decode c.code pc = .ok (.return_, 1)) (hc : cells ≤ C) (hs : slots ≤ S) (hq : Q none T.heap locs) : Ga p e below s Q C S T m pc Ls [] :=
  Ga.out X hlk (fun _ => rfl) hc hs hq fun fs hr => X.returnOut hx hret hd hr
theorem g_ldcI (X : Stand p l e R s m args below meth c T locs cells slots) (hx : p.tables.exec = Jvm.exec) (hZ : Z.Warmed39 s.vm) (hown : s.vm.findClass own = some m.cls) {index : Nat} {v : Int32} (w : (Cond.constant own index v).before a0 Z = true) (hd : decode c.code pc = .ok (.ldc index, 2)) (hp : pc + 2 = q) (g : Ga p e below s Q C S T m q Ls (.int v :: st)) : Ga p e below s Q C S T m pc Ls st := by
  subst hp
  exact Ga.stp (fun t k => X.ldcInt hx hown (mvT hZ w) (g := mkF m pc Ls st) rfl hd t k) g
theorem g_new (X : Stand p l e R s m args below meth c T locs cells slots) (hx : p.tables.exec = Jvm.exec) (hZ : Z.Warmed39 s.vm) (hown : s.vm.findClass own = some m.cls) {K : String} {index n : Nat} (w : (Cond.classLink own index K).before a0 Z = true) (wi : (Cond.instantiable K n).before a0 Z = true) (wz : (Cond.initialized K).before a0 Z = true) (eT : T.heap = h)
    (hd : decode c.code pc = .ok (.new index, 3)) (hp : pc + 3 = q) (hc : cells + 1 ≤ R.cells) (hl : slots + n ≤ R.slots)
    (k : ∀ T' h' b, Stand p l e R s m args below meth c T' locs (cells + 1) (slots + n) → T'.heap = h' → b = h.size → Ext h h' → Exa Z h' b K → (∀ {O nm d : String} {ty : FieldType}, Laid Z a0 K O nm d → parseFieldDescriptor d = some ty → Fld Z h' b O nm d (defaultValue ty)) → Ga p e below s Q C S T' m q Ls (.ref b :: st)) : Ga p e below s Q C S T m pc Ls st := by
  subst hp
  obtain ⟨T', h', X', e', E', A', D', -, sx⟩ := newO X hx hZ hown w wi wz eT (g := mkF m pc Ls st) rfl hd hc hl
  exact Ga.stp sx (k T' h' _ X' e' rfl E' A' D')
theorem g_getF (X : Stand p l e R s m args below meth c T locs cells slots) (hx : p.tables.exec = Jvm.exec) (hZ : Z.Warmed39 s.vm) (hown : s.vm.findClass own = some m.cls) {R0 O n d host : String} {index : Nat} (w : (Cond.fieldLink own index R0 n d).before a0 Z = true ∨ (Cond.fieldLinkNest own index R0 n d host).before a0 Z = true) (via : Via Z R0 O n d) (eT : T.heap = h) {a : Addr} {v : Value} (F : Fld Z h a O n d v)
    (hd : decode c.code pc = .ok (.getfield index, 3)) (hp : pc + 3 = q) (k : ∀ T', Stand p l e R s m args below meth c T' locs cells slots → T'.heap = h → Ga p e below s Q C S T' m q Ls (v :: st)) : Ga p e below s Q C S T m pc Ls (.ref a :: st) := by
  subst hp
  obtain ⟨T', X', e', sx⟩ := getF X hx hZ hown w via eT F (g := mkF m pc Ls (.ref a :: st)) rfl rfl hd
  exact Ga.stp sx (k T' X' e')
theorem g_getS (X : Stand p l e R s m args below meth c T locs cells slots) (hx : p.tables.exec = Jvm.exec) (hZ : Z.Warmed39 s.vm) (hown : s.vm.findClass own = some m.cls) {R0 O n d host : String} {index : Nat} (w : (Cond.fieldLink own index R0 n d).before a0 Z = true ∨ (Cond.fieldLinkNest own index R0 n d host).before a0 Z = true) (via : Via Z R0 O n d) (eT : T.heap = h) {v : Value} (F : Sta Z h O n d v)
    (hd : decode c.code pc = .ok (.getstatic index, 3)) (hp : pc + 3 = q) (k : ∀ T', Stand p l e R s m args below meth c T' locs cells slots → T'.heap = h → Ga p e below s Q C S T' m q Ls (v :: st)) : Ga p e below s Q C S T m pc Ls st := by
  subst hp
  obtain ⟨T', X', e', sx⟩ := getS2 X hx hZ hown w via eT F (g := mkF m pc Ls st) rfl hd
  exact Ga.stp sx (k T' X' e')
theorem g_cast (X : Stand p l e R s m args below meth c T locs cells slots) (hx : p.tables.exec = Jvm.exec) (hZ : Z.Warmed39 s.vm) (hown : s.vm.findClass own = some m.cls) {K : String} {index : Nat} (w : (Cond.classLink own index K).before a0 Z = true) (eT : T.heap = h) {a : Addr} (F : Ins Z h a K true)
    (hd : decode c.code pc = .ok (.checkcast index, 3)) (hp : pc + 3 = q) (k : ∀ T', Stand p l e R s m args below meth c T' locs cells slots → T'.heap = h → Ga p e below s Q C S T' m q Ls (.ref a :: st)) : Ga p e below s Q C S T m pc Ls (.ref a :: st) := by
  subst hp
  obtain ⟨T', X', e', sx⟩ := castY X hx hZ hown w eT F (g := mkF m pc Ls (.ref a :: st)) rfl rfl hd
  exact Ga.stp sx (k T' X' e')
theorem g_putF (X : Stand p l e R s m args below meth c T locs cells slots) (hx : p.tables.exec = Jvm.exec) (hZ : Z.Warmed39 s.vm) (hown : s.vm.findClass own = some m.cls) {R0 O n d host K : String} {index kk : Nat} {ty : FieldType} (w : (Cond.fieldLink own index R0 n d).before a0 Z = true ∨ (Cond.fieldLinkNest own index R0 n d host).before a0 Z = true) (via : Via Z R0 O n d) (eT : T.heap = h) {a : Addr} {v old : Value} (F : Fld Z h a O n d old) (E : Exa Z h a K)
    (L : (Cond.lays K O n d).before a0 Z = true ∨ ((Cond.laysFinal K O n d).before a0 Z = true ∧ own = O ∧ meth.name = "<init>")) (wi : (Cond.instantiable K kk).before a0 Z = true) (hty : parseFieldDescriptor d = some ty) (hn : narrow ty v = v) (hf : fits ty v = true)
    (hd : decode c.code pc = .ok (.putfield index, 3)) (hp : pc + 3 = q) (k : ∀ T' h', Stand p l e R s m args below meth c T' (locs ++ [⟨a, Jvm.RoadKit.slotOf Z O n d⟩]) cells slots → T'.heap = h' → Wr h h' a (Jvm.RoadKit.slotOf Z O n d) v → Fld Z h' a O n d v → Ga p e below s Q C S T' m q Ls st) : Ga p e below s Q C S T m pc Ls (v :: .ref a :: st) := by
  subst hp
  obtain ⟨T', h', X', e', W', sx⟩ := putF X hx hZ hown w via eT F E L wi hty hn hf (g := mkF m pc Ls (v :: .ref a :: st)) rfl rfl hd
  exact Ga.stp sx (k T' h' X' e' W' (F.same W'))
theorem g_initO (X : Stand p l e R s m args below meth c T locs cells slots) (hx : p.tables.exec = Jvm.exec) (hZ : Z.Warmed39 s.vm) (hown : s.vm.findClass own = some m.cls) {idx : Nat} (w1 : (Cond.methodLink own idx Lib.objectInit).before a0 Z = true) (w2 : (Cond.instanceMethod Lib.objectInit).before a0 Z = true) (w3 : (Cond.code Lib.objectInit ⟨#[0xb1]⟩ 1 none).before a0 Z = true) (eT : T.heap = h) (hsz : Ls.size = c.maxLocals) {a : Addr}
    (hd : decode c.code pc = .ok (.invokespecial idx, 3)) (hp : pc + 3 = q) (hf : 1 ≤ R.frames) {W : Nat} (hW : (st.map fun v => v.category).sum ≤ W) (hl : W + 12 ≤ R.locals) (k : ∀ T', Stand p l e R s m args below meth c T' locs cells slots → T'.heap = h → Ga p e below s Q C S T' m q Ls st) : Ga p e below s Q C S T m pc Ls (.ref a :: st) := by
  subst hp
  obtain ⟨T', X', e', sx⟩ := initO X hx hZ hown w1 w2 w3 eT (g := mkF m pc Ls (.ref a :: st)) rfl hsz rfl hd hf (W := W) (by show 2 * 0 + _ ≤ _; omega) hl
  exact Ga.stp sx (k T' X' e')
theorem g_static (X : Stand p l e R s m args below meth c T locs cells slots) (hx : p.tables.exec = Jvm.exec) (hZ : Z.Warmed39 s.vm) (hown : s.vm.findClass own = some m.cls) {index : Nat} {y : MethodName} {ret : Option FieldType} {bytes : ByteArray} {maxL : Nat} {rm : Room} {as' : Array Value} {Q' : Option Value → Heap → List Loc → Prop} (w1 : (Cond.methodLink own index y).before a0 Z = true) (w2 : (Cond.static y).before a0 Z = true) (w3 : (Cond.initialized y.cls).before a0 Z = true) (w4 : (Cond.code y bytes maxL ret).before a0 Z = true) (hy : y.cls ≠ "java/lang/invoke/MethodHandle" ∧ y.cls ≠ "java/lang/invoke/VarHandle")
    (hM : Ct l Z y bytes maxL ret [] rm as' h Q') (hsz : Ls.size = c.maxLocals) (eT : T.heap = h) (argsL : List Value) {rest : List Value} (has : as' = argsL.toArray) (hst : st = argsL.reverse ++ rest) {W : Nat} (hW : (rest.map fun v => v.category).sum ≤ W) (hf : rm.frames + 1 ≤ R.frames) (hl : W + (maxL + 11) + rm.locals ≤ R.locals) (hcl : cells + rm.cells ≤ R.cells) (hsl : slots + rm.slots ≤ R.slots) (hlen : ∀ sig, parseMethodDescriptor y.desc = some sig → argsL.length = sig.parameters.length) (hd : decode c.code pc = .ok (.invokestatic index, 3)) (hp : pc + 3 = q) (k : ∀ v T' L, Stand p l e R s m args below meth c T' (locs ++ L) (cells + rm.cells) (slots + rm.slots) → Q' v T'.heap L → Ga p e below s Q C S T' m q Ls (v.toList ++ rest)) : Ga p e below s Q C S T m pc Ls st := by
  subst hp has hst
  obtain ⟨_, _, ⟨T', L', k', n'⟩, -, X', ⟨Lc, hQ', l1, y1, z1⟩, sx⟩ := Jvm.LawKit.callS X hx (y := y) hown (mvT hZ w1) (mvT hZ w2) (mvT hZ w3) (mvT hZ w4) hy (backOf (W := W) hM hZ w4 w3 hf hl) (g := mkF m pc Ls (argsL.reverse ++ rest)) rfl hsz (argsL := argsL) (rest := rest) hlen rfl (by show 2 * 0 + _ ≤ _; omega) hd (fun _ _ => ⟨rfl, eT, hcl, hsl⟩)
  dsimp only [Pt.U, Pt.locs, Pt.cells, Pt.slots] at X' l1 y1 z1 sx hQ'
  subst l1 y1 z1
  exact Ga.stp sx (k _ T' Lc X' hQ')
theorem g_special (X : Stand p l e R s m args below meth c T locs cells slots) (hx : p.tables.exec = Jvm.exec) (hZ : Z.Warmed39 s.vm) (hown : s.vm.findClass own = some m.cls) {index : Nat} {y : MethodName} {bytes : ByteArray} {maxL : Nat} {rm : Room} {as' : Array Value} {Q' : Option Value → Heap → List Loc → Prop} (hy1 : y.name = "<init>") (w1 : (Cond.methodLink own index y).before a0 Z = true) (w2 : (Cond.instanceMethod y).before a0 Z = true) (w3 : (Cond.initialized y.cls).before a0 Z = true) (w4 : (Cond.code y bytes maxL none).before a0 Z = true) (hy : y.cls ≠ "java/lang/invoke/MethodHandle" ∧ y.cls ≠ "java/lang/invoke/VarHandle") {a : Addr}
    (hM : Ct l Z y bytes maxL none [] rm as' h Q') (hsz : Ls.size = c.maxLocals) (eT : T.heap = h) (argsL : List Value) {rest : List Value} (has : as' = (.ref a :: argsL).toArray) (hst : st = argsL.reverse ++ .ref a :: rest) {W : Nat} (hW : (rest.map fun v => v.category).sum ≤ W) (hf : rm.frames + 1 ≤ R.frames) (hl : W + (maxL + 11) + rm.locals ≤ R.locals) (hcl : cells + rm.cells ≤ R.cells) (hsl : slots + rm.slots ≤ R.slots) (hlen : ∀ sig, parseMethodDescriptor y.desc = some sig → argsL.length = sig.parameters.length) (hd : decode c.code pc = .ok (.invokespecial index, 3)) (hp : pc + 3 = q) (k : ∀ v T' L, Stand p l e R s m args below meth c T' (locs ++ L) (cells + rm.cells) (slots + rm.slots) → Q' v T'.heap L → Ga p e below s Q C S T' m q Ls (v.toList ++ rest)) : Ga p e below s Q C S T m pc Ls st := by
  subst hp has hst
  obtain ⟨_, _, ⟨T', L', k', n'⟩, -, X', ⟨Lc, hQ', l1, y1, z1⟩, sx⟩ := X.specialBack hx (y := y) hy1 hown (mvT hZ w1) (mvT hZ w2) (mvT hZ w4) hy (backOf (W := W) hM hZ w4 w3 hf hl) (g := mkF m pc Ls (argsL.reverse ++ .ref a :: rest)) rfl hsz (Steps.refl _) (a := a) (argsL := argsL) (rest := rest) hlen rfl (by show 2 * 0 + _ ≤ _; omega) hd (fun _ _ => ⟨rfl, eT, hcl, hsl⟩)
  dsimp only [Pt.U, Pt.locs, Pt.cells, Pt.slots] at X' l1 y1 z1 sx hQ'
  subst l1 y1 z1
  exact Ga.stp (fun _ kk => sx.trans kk) (k _ T' Lc X' hQ')
theorem g_virtual (X : Stand p l e R s m args below meth c T locs cells slots) (hx : p.tables.exec = Jvm.exec) (hZ : Z.Warmed39 s.vm) (hown : s.vm.findClass own = some m.cls) {index : Nat} {y z : MethodName} {K : String} {ret : Option FieldType} {bytes : ByteArray} {maxL : Nat} {rm : Room} {as' : Array Value} {Q' : Option Value → Heap → List Loc → Prop} (w1 : (Cond.methodLink own index y).before a0 Z = true) (w2 : (Cond.declares y).before a0 Z = true) (nf : NotFace s y) (w3 : (Cond.selects K y z).before a0 Z = true) (w4 : (Cond.instanceMethod z).before a0 Z = true) (w5 : (Cond.initialized z.cls).before a0 Z = true) (w6 : (Cond.code z bytes maxL ret).before a0 Z = true) (hy : y.cls ≠ "java/lang/invoke/MethodHandle" ∧ y.cls ≠ "java/lang/invoke/VarHandle") {a : Addr} (E : Exa Z h a K)
    (hM : Ct l Z z bytes maxL ret [] rm as' h Q') (hsz : Ls.size = c.maxLocals) (eT : T.heap = h) (argsL : List Value) {rest : List Value} (has : as' = (.ref a :: argsL).toArray) (hst : st = argsL.reverse ++ .ref a :: rest) {W : Nat} (hW : (rest.map fun v => v.category).sum ≤ W) (hf : rm.frames + 1 ≤ R.frames) (hl : W + (maxL + 11) + rm.locals ≤ R.locals) (hcl : cells + rm.cells ≤ R.cells) (hsl : slots + rm.slots ≤ R.slots) (hlen : ∀ sig, parseMethodDescriptor y.desc = some sig → argsL.length = sig.parameters.length) (hd : decode c.code pc = .ok (.invokevirtual index, 3)) (hp : pc + 3 = q) (k : ∀ v T' L, Stand p l e R s m args below meth c T' (locs ++ L) (cells + rm.cells) (slots + rm.slots) → Q' v T'.heap L → Ga p e below s Q C S T' m q Ls (v.toList ++ rest)) : Ga p e below s Q C S T m pc Ls st := by
  subst hp has hst
  obtain ⟨cq, kq, qa, qb, qc⟩ := isOf hZ eT E
  obtain ⟨_, _, ⟨T', L', k', n'⟩, -, X', ⟨Lc, hQ', l1, y1, z1⟩, sx⟩ := X.virtualBack hx (y := y) (z := z) hown (mvT hZ w1) (mvT hZ w2) nf (mvT hZ w3) (mvT hZ w4) hy (backOf (W := W) hM hZ w6 w5 hf hl) qa qc (g := mkF m pc Ls (argsL.reverse ++ .ref a :: rest)) rfl hsz (Steps.refl _) (argsL := argsL) (rest := rest) hlen rfl (by show 2 * 0 + _ ≤ _; omega) hd (fun _ _ => ⟨rfl, eT, hcl, hsl⟩)
  dsimp only [Pt.U, Pt.locs, Pt.cells, Pt.slots] at X' l1 y1 z1 sx hQ'
  subst l1 y1 z1
  exact Ga.stp (fun _ kk => sx.trans kk) (k _ T' Lc X' hQ')
theorem g_interface (X : Stand p l e R s m args below meth c T locs cells slots) (hx : p.tables.exec = Jvm.exec) (hZ : Z.Warmed39 s.vm) (hown : s.vm.findClass own = some m.cls) {index count : Nat} {y z : MethodName} {K : String} {ret : Option FieldType} {bytes : ByteArray} {maxL : Nat} {rm : Room} {as' : Array Value} {Q' : Option Value → Heap → List Loc → Prop} (w1 : (Cond.methodLink own index y).before a0 Z = true) (w2 : (Cond.declares y).before a0 Z = true) (w2' : (Cond.interfaceMethod y.cls y.cls y.name y.desc).before a0 Z = true) (w3 : (Cond.selects K y z).before a0 Z = true) (w4 : (Cond.instanceMethod z).before a0 Z = true) (w7 : (Cond.publicMethod z).before a0 Z = true) (w8 : (Cond.unhidden K y.name y.desc).before a0 Z = true) (w9 : (Cond.castable K y.cls).before a0 Z = true) (w5 : (Cond.initialized z.cls).before a0 Z = true) (w6 : (Cond.code z bytes maxL ret).before a0 Z = true) (hy : y.cls ≠ "java/lang/invoke/MethodHandle" ∧ y.cls ≠ "java/lang/invoke/VarHandle") {a : Addr} (E : Exa Z h a K)
    (hM : Ct l Z z bytes maxL ret [] rm as' h Q') (hsz : Ls.size = c.maxLocals) (eT : T.heap = h) (argsL : List Value) {rest : List Value} (has : as' = (.ref a :: argsL).toArray) (hst : st = argsL.reverse ++ .ref a :: rest) {W : Nat} (hW : (rest.map fun v => v.category).sum ≤ W) (hf : rm.frames + 1 ≤ R.frames) (hl : W + (maxL + 11) + rm.locals ≤ R.locals) (hcl : cells + rm.cells ≤ R.cells) (hsl : slots + rm.slots ≤ R.slots) (hlen : ∀ sig, parseMethodDescriptor y.desc = some sig → argsL.length = sig.parameters.length) (hd : decode c.code pc = .ok (.invokeinterface index count, 5)) (hp : pc + 5 = q) (k : ∀ v T' L, Stand p l e R s m args below meth c T' (locs ++ L) (cells + rm.cells) (slots + rm.slots) → Q' v T'.heap L → Ga p e below s Q C S T' m q Ls (v.toList ++ rest)) : Ga p e below s Q C S T m pc Ls st := by
  subst hp has hst
  obtain ⟨cq, kq, qa, qb, qc⟩ := isOf hZ eT E
  obtain ⟨_, _, ⟨T', L', k', n'⟩, -, X', ⟨Lc, hQ', l1, y1, z1⟩, sx⟩ := X.interfaceBack hx (xi := y) (y := z) hown (mvT hZ w1) (mvT hZ w2) (Jvm.Free.ULB.iface_rides hZ.alike w2') (mvT hZ w3) (mvT hZ w4) (mvT hZ w7) (mvT hZ w8) (mvT hZ w9) hy (backOf (W := W) hM hZ w6 w5 hf hl) qa qb qc (g := mkF m pc Ls (argsL.reverse ++ .ref a :: rest)) rfl hsz (Steps.refl _) (argsL := argsL) (rest := rest) hlen rfl (by show 2 * 0 + _ ≤ _; omega) hd (fun _ _ => ⟨rfl, eT, hcl, hsl⟩)
  dsimp only [Pt.U, Pt.locs, Pt.cells, Pt.slots] at X' l1 y1 z1 sx hQ'
  subst l1 y1 z1
  exact Ga.stp (fun _ kk => sx.trans kk) (k _ T' Lc X' hQ')
theorem g_private (X : Stand p l e R s m args below meth c T locs cells slots) (hx : p.tables.exec = Jvm.exec) (hZ : Z.Warmed39 s.vm) (hown : s.vm.findClass own = some m.cls) {index : Nat} {y : MethodName} {ret : Option FieldType} {bytes : ByteArray} {maxL : Nat} {rm : Room} {as' : Array Value} {Q' : Option Value → Heap → List Loc → Prop} (w1 : (Cond.methodLink own index y).before a0 Z = true) (w2 : (Cond.instanceMethod y).before a0 Z = true) {ki : Nat} (w3 : (Cond.instantiable y.cls ki).before a0 Z = true) (w4 : (Cond.privateMethod y).before a0 Z = true) (w5 : (Cond.initialized y.cls).before a0 Z = true) (w6 : (Cond.code y bytes maxL ret).before a0 Z = true) (hy : y.cls ≠ "java/lang/invoke/MethodHandle" ∧ y.cls ≠ "java/lang/invoke/VarHandle") {a : Addr} {K : String} (E : Exa Z h a K)
    (hM : Ct l Z y bytes maxL ret [] rm as' h Q') (hsz : Ls.size = c.maxLocals) (eT : T.heap = h) (argsL : List Value) {rest : List Value} (has : as' = (.ref a :: argsL).toArray) (hst : st = argsL.reverse ++ .ref a :: rest) {W : Nat} (hW : (rest.map fun v => v.category).sum ≤ W) (hf : rm.frames + 1 ≤ R.frames) (hl : W + (maxL + 11) + rm.locals ≤ R.locals) (hcl : cells + rm.cells ≤ R.cells) (hsl : slots + rm.slots ≤ R.slots) (hlen : ∀ sig, parseMethodDescriptor y.desc = some sig → argsL.length = sig.parameters.length) (hd : decode c.code pc = .ok (.invokevirtual index, 3)) (hp : pc + 3 = q) (k : ∀ v T' L, Stand p l e R s m args below meth c T' (locs ++ L) (cells + rm.cells) (slots + rm.slots) → Q' v T'.heap L → Ga p e below s Q C S T' m q Ls (v.toList ++ rest)) : Ga p e below s Q C S T m pc Ls st := by
  subst hp has hst
  obtain ⟨cq, qa, qb⟩ := E.cell
  have hpr : s.PrivateAt y := Cond.privateMethod_at (mvP hZ w4 (args := #[]))
  obtain ⟨ci, kc, i1, i2, -, i4, -⟩ := Cond.instantiable_spec (mvT (args := args) hZ w3)
  have hni : kc.isInterface = false := by rcases Bool.eq_false_or_eq_true kc.isInterface with q | q <;> simp [q] at i4 ⊢
  have hsel := selects_self_of_private (args := args) i1 i2 hni hpr (mvT hZ w2) hy
  obtain ⟨_, _, ⟨T', L', k', n'⟩, -, X', ⟨Lc, hQ', l1, y1, z1⟩, sx⟩ := X.privateBack hx (y := y) hown (mvT hZ w1) (mvT hZ w2) hsel hpr (mvT hZ w6) hy (backOf (W := W) hM hZ w6 w5 hf hl) (g := mkF m pc Ls (argsL.reverse ++ .ref a :: rest)) rfl hsz (Steps.refl _) (a := a) (by rw [eT]; exact qa) qb (argsL := argsL) (rest := rest) hlen rfl (by show 2 * 0 + _ ≤ _; omega) hd (fun _ _ => ⟨rfl, eT, hcl, hsl⟩)
  dsimp only [Pt.U, Pt.locs, Pt.cells, Pt.slots] at X' l1 y1 z1 sx hQ'
  subst l1 y1 z1
  exact Ga.stp (fun _ kk => sx.trans kk) (k _ T' Lc X' hQ')
variable {ka : ClassId} {ty : FieldType} {z j : Int32} {vs : List Value} {dv : Value} {a : Addr}
theorem g_len (X : Stand p l e R s m args below meth c T locs cells slots) (hx : p.tables.exec = Jvm.exec) (hZ : Z.Warmed39 s.vm) (eT : T.heap = h) (A : Arv Z h a ka ty z vs dv) (hd : decode c.code pc = .ok (.arraylength, 1)) (hp : pc + 1 = q) (g : Ga p e below s Q C S T m q Ls (.int z :: st)) : Ga p e below s Q C S T m pc Ls (.ref a :: st) := by
  subst hp
  obtain ⟨cl, Ar, -, Sz, N, -, -⟩ := A
  refine Ga.stp (fun t k => X.arraylength hx (by rw [eT]; exact Ar.1) (State.isArrayOf_alike hZ.alike Ar.2.1) (g := mkF m pc Ls (.ref a :: st)) rfl rfl hd t ?_) g
  rw [len_of Sz N]; exact k
theorem g_baload (X : Stand p l e R s m args below meth c T locs cells slots) (hx : p.tables.exec = Jvm.exec) (hZ : Z.Warmed39 s.vm) (eT : T.heap = h) (A : Arv Z h a ka .byte z vs dv) {v : Value} (hin : ¬ j < 0 ∧ j < z) (hv : vs.getD j.toNatClampNeg dv = v) (hd : decode c.code pc = .ok (.baload, 1)) (hp : pc + 1 = q) (g : Ga p e below s Q C S T m q Ls (v :: st)) : Ga p e below s Q C S T m pc Ls (.int j :: .ref a :: st) := by
  subst hp
  obtain ⟨cl, Ar, -, Sz, N, Hs, -⟩ := A
  exact Ga.stp (fun t k => X.baloadBytes hx (j := j) (v := v) (by rw [eT]; exact Ar.1) (State.isArrayOf_alike hZ.alike Ar.2.1) Ar.2.2 (inb_of Sz hin) (Hs.at (inb_of Sz hin) hv) (g := mkF m pc Ls (.int j :: .ref a :: st)) rfl rfl hd t k) g
theorem g_aaload (X : Stand p l e R s m args below meth c T locs cells slots) (hx : p.tables.exec = Jvm.exec) (hZ : Z.Warmed39 s.vm) (eT : T.heap = h) (A : Arv Z h a ka ty z vs dv) (hr : ty.isReference = true) {v : Value} (hin : ¬ j < 0 ∧ j < z) (hv : vs.getD j.toNatClampNeg dv = v) (hd : decode c.code pc = .ok (.aaload, 1)) (hp : pc + 1 = q) (g : Ga p e below s Q C S T m q Ls (v :: st)) : Ga p e below s Q C S T m pc Ls (.int j :: .ref a :: st) := by
  subst hp
  obtain ⟨cl, Ar, -, Sz, N, Hs, -⟩ := A
  exact Ga.stp (fun t k => X.aaload hx (j := j) (v := v) (by rw [eT]; exact Ar.1) (State.isArrayOf_alike hZ.alike Ar.2.1) hr Ar.2.2 (inb_of Sz hin) (Hs.at (inb_of Sz hin) hv) (g := mkF m pc Ls (.int j :: .ref a :: st)) rfl rfl hd t k) g
theorem g_bastore (X : Stand p l e R s m args below meth c T locs cells slots) (hx : p.tables.exec = Jvm.exec) (hZ : Z.Warmed39 s.vm) (eT : T.heap = h) (A : Arv Z h a ka .byte z vs dv) {x : Int32} (hin : ¬ j < 0 ∧ j < z) (hlen : j.toNatClampNeg < vs.length) (hd : decode c.code pc = .ok (.bastore, 1)) (hp : pc + 1 = q)
    (k : ∀ T' h', Stand p l e R s m args below meth c T' (locs ++ [⟨a, j.toNatClampNeg⟩]) cells slots → T'.heap = h' → Wr h h' a j.toNatClampNeg (.int (nar .byte x)) → Arv Z h' a ka .byte z (vs.set j.toNatClampNeg (.int (nar .byte x))) dv → Ga p e below s Q C S T' m q Ls st) : Ga p e below s Q C S T m pc Ls (.int x :: .int j :: .ref a :: st) := by
  subst hp
  obtain ⟨cl, Ar, q1, Sz, N, Hs, Gs⟩ := A
  obtain ⟨T', h', X', e', W', sx⟩ := stB X hx hZ eT Ar (j := j) (inb_of Sz hin) (g := mkF m pc Ls (.int x :: .int j :: .ref a :: st)) rfl rfl hd
  exact Ga.stp sx (k T' h' X' e' W' (Arv.set Ar q1 Sz N Hs Gs (fits_nar_byte x) W' _ rfl hlen))
theorem g_aastore (X : Stand p l e R s m args below meth c T locs cells slots) (hx : p.tables.exec = Jvm.exec) (hZ : Z.Warmed39 s.vm) (eT : T.heap = h) (A : Arv Z h a ka ty z vs dv) (hr : ty.isReference = true) {x : Value} (hfi : fits ty x = true) (F : Sto Z h a x) (hin : ¬ j < 0 ∧ j < z) (hlen : j.toNatClampNeg < vs.length) (hd : decode c.code pc = .ok (.aastore, 1)) (hp : pc + 1 = q)
    (k : ∀ T' h', Stand p l e R s m args below meth c T' (locs ++ [⟨a, j.toNatClampNeg⟩]) cells slots → T'.heap = h' → Wr h h' a j.toNatClampNeg x → Arv Z h' a ka ty z (vs.set j.toNatClampNeg x) dv → Ga p e below s Q C S T' m q Ls st) : Ga p e below s Q C S T m pc Ls (x :: .int j :: .ref a :: st) := by
  subst hp
  obtain ⟨cl, Ar, q1, Sz, N, Hs, Gs⟩ := A
  obtain ⟨T', h', X', e', W', sx⟩ := stR X hx hZ eT Ar (j := j) (inb_of Sz hin) hr F (g := mkF m pc Ls (x :: .int j :: .ref a :: st)) rfl rfl hd
  exact Ga.stp sx (k T' h' X' e' W' (Arv.set Ar q1 Sz N Hs Gs hfi W' _ rfl hlen))
theorem own_sto {y : Addr} {K : String} (A : Arv Z h a ka ty z vs dv) (O : Ovr Z ka K) (I : Ins Z h y K true) : Sto Z h a (.ref y) := by
  obtain ⟨cl, Ar, q1, -⟩ := A
  exact Sto.ofV Ar q1 O I
theorem g_newarray (X : Stand p l e R s m args below meth c T locs cells slots) (hx : p.tables.exec = Jvm.exec) (hZ : Z.Warmed39 s.vm) {aty : ArrayType} (w : (Cond.arrayClass (newarray.typeOf aty)).before a0 Z = true) (eT : T.heap = h) {n : Int32} (hn : ¬ n < 0) (cap : Nat) (hcap : n.toNatClampNeg ≤ cap) (hb : cap * 8 ≤ 536870912) (hc : cells + 1 ≤ R.cells) (hl : slots + cap ≤ R.slots) {ad : String} (had : "[" ++ (newarray.typeOf aty).toString = ad) (hd : decode c.code pc = .ok (.newarray aty, 2)) (hp : pc + 2 = q)
    (k : ∀ T' h' b kA, Stand p l e R s m args below meth c T' locs (cells + 1) (slots + cap) → T'.heap = h' → b = h.size → Ext h h' → Exa Z h' b ad → Arv Z h' b kA (newarray.typeOf aty) n (List.replicate cap (defaultValue (newarray.typeOf aty))) (defaultValue (newarray.typeOf aty)) → Ga p e below s Q C S T' m q Ls (.ref b :: st)) : Ga p e below s Q C S T m pc Ls (.int n :: st) := by
  subst hp
  obtain ⟨T', h', cA, X', e', E', A', Ea, sx⟩ := newPE X hx hZ w eT (g := mkF m pc Ls (.int n :: st)) rfl hd rfl hn hcap hb hc hl had
  exact Ga.stp sx (k T' h' _ cA X' e' rfl E' Ea ((Arv.new A' hn).pad (by simpa using pad_rep [] (defaultValue (newarray.typeOf aty)) cap)))
theorem g_anewarray (X : Stand p l e R s m args below meth c T locs cells slots) (hx : p.tables.exec = Jvm.exec) (hZ : Z.Warmed39 s.vm) (hown : s.vm.findClass own = some m.cls) {K : String} {index : Nat} (w1 : (Cond.classLink own index K).before a0 Z = true) (w2 : (Cond.arrayOver (.object K)).before a0 Z = true) (eT : T.heap = h) {n : Int32} (hn : ¬ n < 0) (cap : Nat) (hcap : n.toNatClampNeg ≤ cap) (hb : cap * 8 ≤ 536870912) (hc : cells + 1 ≤ R.cells) (hl : slots + cap ≤ R.slots) {ad : String} (had : "[" ++ (FieldType.object K).toString = ad) (hd : decode c.code pc = .ok (.anewarray index, 3)) (hp : pc + 3 = q)
    (k : ∀ T' h' b kA, Stand p l e R s m args below meth c T' locs (cells + 1) (slots + cap) → T'.heap = h' → b = h.size → Ext h h' → Exa Z h' b ad → Ovr Z kA K → Arv Z h' b kA (.object K) n (List.replicate cap .null) .null → Ga p e below s Q C S T' m q Ls (.ref b :: st)) : Ga p e below s Q C S T m pc Ls (.int n :: st) := by
  subst hp
  obtain ⟨T', h', cA, X', e', E', A', Ea, O', sx⟩ := newRE X hx hZ hown w1 w2 eT (g := mkF m pc Ls (.int n :: st)) rfl hd rfl hn hcap hb hc hl had
  exact Ga.stp sx (k T' h' _ cA X' e' rfl E' Ea O' ((Arv.new A' hn).pad (by show ∀ i, (List.replicate cap (defaultValue (FieldType.object K))).getD i (defaultValue (FieldType.object K)) = [].getD i (defaultValue (FieldType.object K)); simpa using pad_rep [] (defaultValue (FieldType.object K)) cap)))
theorem own_ne {b : Addr} (h1 : a < h.size) (h2 : b = h.size) : a ≠ b := Nat.ne_of_lt (h2 ▸ h1)
theorem own_neK {b : Addr} (h1 : a < h.size) (h2 : h.size ≤ b) : a ≠ b := Nat.ne_of_lt (Nat.lt_of_lt_of_le h1 h2)
end GoKit

theorem own_irrI (x : Int32) : ¬ x < x := Int32.lt_irrefl
theorem own_irrJ (x : Int64) : ¬ x < x := Int64.lt_irrefl
theorem own_narc (x : Int32) : nar .char (x &&& (255 : Int32)) = (x &&& (255 : Int32)) := i2c_mask x
theorem own_nar (x : Int32) : nar .byte x = x.toInt8.toInt32 := rfl
theorem own_bb (x : Int32) : x.toInt8.toInt32.toInt8.toInt32 = x.toInt8.toInt32 := by simp
theorem own_nb {h : Heap} {b b' y : Addr} (hb : b' = b ∨ h.size ≤ b') (lt : y < h.size) (ne : y ≠ b) : y ≠ b' := hb.elim (fun q => q ▸ ne) (fun q => Nat.ne_of_lt (Nat.lt_of_lt_of_le lt q))
theorem own_ng {h : Heap} {b b' : Addr} {n0 : Nat} (hb : b' = b ∨ h.size ≤ b') (g : n0 ≤ b) (Z : n0 ≤ h.size) : n0 ≤ b' := hb.elim (fun q => q ▸ g) (fun q => Nat.le_trans Z q)
theorem own_insK {Z : State} {h h' : Heap} {a : Addr} {C : String} {ws : List Addr} (F : Ins Z h a C true) (K : Keep h h' ws) : Ins Z h' a C true := by
  obtain ⟨cell, cT, h1, h2, h3⟩ := F
  obtain ⟨c', q1, q2, q3, -⟩ := K.2.2 _ _ h1
  exact ⟨c', cT, q1, h2, by rw [q2, q3]; exact h3⟩
theorem d_jdk_22_m_1_0 : decode jdk_22_method_1_code 0 = .ok (.aload_n 0, 1) := by decide +kernel
theorem d_jdk_22_m_1_1 : decode jdk_22_method_1_code 1 = .ok (.invokespecial 1, 3) := by decide +kernel
theorem d_jdk_22_m_1_4 : decode jdk_22_method_1_code 4 = .ok (.return_, 1) := by decide +kernel
theorem d_jdk_39_m_1_0 : decode jdk_39_method_1_code 0 = .ok (.aload_n 0, 1) := by decide +kernel
theorem d_jdk_39_m_1_1 : decode jdk_39_method_1_code 1 = .ok (.invokespecial 1, 3) := by decide +kernel
theorem d_jdk_39_m_1_4 : decode jdk_39_method_1_code 4 = .ok (.aload_n 0, 1) := by decide +kernel
theorem d_jdk_39_m_1_5 : decode jdk_39_method_1_code 5 = .ok (.iconst 0, 1) := by decide +kernel
theorem d_jdk_39_m_1_6 : decode jdk_39_method_1_code 6 = .ok (.putfield 7, 3) := by decide +kernel
theorem d_jdk_39_m_1_9 : decode jdk_39_method_1_code 9 = .ok (.return_, 1) := by decide +kernel
theorem d_jdk_38_m_2_0 : decode jdk_38_method_2_code 0 = .ok (.aload_n 0, 1) := by decide +kernel
theorem d_jdk_38_m_2_1 : decode jdk_38_method_2_code 1 = .ok (.invokespecial 1, 3) := by decide +kernel
theorem d_jdk_38_m_2_4 : decode jdk_38_method_2_code 4 = .ok (.aload_n 0, 1) := by decide +kernel
theorem d_jdk_38_m_2_5 : decode jdk_38_method_2_code 5 = .ok (.getstatic 39, 3) := by decide +kernel
theorem d_jdk_38_m_2_8 : decode jdk_38_method_2_code 8 = .ok (.putfield 9, 3) := by decide +kernel
theorem d_jdk_38_m_2_11 : decode jdk_38_method_2_code 11 = .ok (.return_, 1) := by decide +kernel
theorem d_jdk_29_m_65_0 : decode jdk_29_method_65_code 0 = .ok (.iload_n 0, 1) := by decide +kernel
theorem d_jdk_29_m_65_1 : decode jdk_29_method_65_code 1 = .ok (.iload_n 1, 1) := by decide +kernel
theorem d_jdk_29_m_65_2 : decode jdk_29_method_65_code 2 = .ok (.if_icmp .lt 7, 3) := by decide +kernel
theorem d_jdk_29_m_65_5 : decode jdk_29_method_65_code 5 = .ok (.iload_n 0, 1) := by decide +kernel
theorem d_jdk_29_m_65_6 : decode jdk_29_method_65_code 6 = .ok (.goto 4, 3) := by decide +kernel
theorem d_jdk_29_m_65_10 : decode jdk_29_method_65_code 10 = .ok (.ireturn, 1) := by decide +kernel
theorem d_jdk_38_m_6_0 : decode jdk_38_method_6_code 0 = .ok (.aload_n 0, 1) := by decide +kernel
theorem d_jdk_38_m_6_1 : decode jdk_38_method_6_code 1 = .ok (.getfield 9, 3) := by decide +kernel
theorem d_jdk_38_m_6_4 : decode jdk_38_method_6_code 4 = .ok (.arraylength, 1) := by decide +kernel
theorem d_jdk_38_m_6_5 : decode jdk_38_method_6_code 5 = .ok (.istore_n 2, 1) := by decide +kernel
theorem d_jdk_38_m_6_6 : decode jdk_38_method_6_code 6 = .ok (.iload_n 2, 1) := by decide +kernel
theorem d_jdk_38_m_6_7 : decode jdk_38_method_6_code 7 = .ok (.ifCond .gt 13, 3) := by decide +kernel
theorem d_jdk_38_m_6_10 : decode jdk_38_method_6_code 10 = .ok (.aload_n 0, 1) := by decide +kernel
theorem d_jdk_38_m_6_11 : decode jdk_38_method_6_code 11 = .ok (.getfield 9, 3) := by decide +kernel
theorem d_jdk_38_m_6_14 : decode jdk_38_method_6_code 14 = .ok (.getstatic 39, 3) := by decide +kernel
theorem d_jdk_38_m_6_17 : decode jdk_38_method_6_code 17 = .ok (.if_acmp .eq 28, 3) := by decide +kernel
theorem d_jdk_38_m_6_45 : decode jdk_38_method_6_code 45 = .ok (.aload_n 0, 1) := by decide +kernel
theorem d_jdk_38_m_6_46 : decode jdk_38_method_6_code 46 = .ok (.bipush 10, 2) := by decide +kernel
theorem d_jdk_38_m_6_48 : decode jdk_38_method_6_code 48 = .ok (.iload_n 1, 1) := by decide +kernel
theorem d_jdk_38_m_6_49 : decode jdk_38_method_6_code 49 = .ok (.invokestatic 79, 3) := by decide +kernel
theorem d_jdk_38_m_6_52 : decode jdk_38_method_6_code 52 = .ok (.anewarray 7, 3) := by decide +kernel
theorem d_jdk_38_m_6_55 : decode jdk_38_method_6_code 55 = .ok (.dup_x1, 1) := by decide +kernel
theorem d_jdk_38_m_6_56 : decode jdk_38_method_6_code 56 = .ok (.putfield 9, 3) := by decide +kernel
theorem d_jdk_38_m_6_59 : decode jdk_38_method_6_code 59 = .ok (.areturn, 1) := by decide +kernel
theorem d_jdk_38_m_7_0 : decode jdk_38_method_7_code 0 = .ok (.aload_n 0, 1) := by decide +kernel
theorem d_jdk_38_m_7_1 : decode jdk_38_method_7_code 1 = .ok (.aload_n 0, 1) := by decide +kernel
theorem d_jdk_38_m_7_2 : decode jdk_38_method_7_code 2 = .ok (.getfield 48, 3) := by decide +kernel
theorem d_jdk_38_m_7_5 : decode jdk_38_method_7_code 5 = .ok (.iconst 1, 1) := by decide +kernel
theorem d_jdk_38_m_7_6 : decode jdk_38_method_7_code 6 = .ok (.iadd, 1) := by decide +kernel
theorem d_jdk_38_m_7_7 : decode jdk_38_method_7_code 7 = .ok (.invokevirtual 69, 3) := by decide +kernel
theorem d_jdk_38_m_7_10 : decode jdk_38_method_7_code 10 = .ok (.areturn, 1) := by decide +kernel
theorem d_jdk_38_m_24_0 : decode jdk_38_method_24_code 0 = .ok (.iload_n 3, 1) := by decide +kernel
theorem d_jdk_38_m_24_1 : decode jdk_38_method_24_code 1 = .ok (.aload_n 2, 1) := by decide +kernel
theorem d_jdk_38_m_24_2 : decode jdk_38_method_24_code 2 = .ok (.arraylength, 1) := by decide +kernel
theorem d_jdk_38_m_24_3 : decode jdk_38_method_24_code 3 = .ok (.if_icmp .ne 8, 3) := by decide +kernel
theorem d_jdk_38_m_24_6 : decode jdk_38_method_24_code 6 = .ok (.aload_n 0, 1) := by decide +kernel
theorem d_jdk_38_m_24_7 : decode jdk_38_method_24_code 7 = .ok (.invokevirtual 129, 3) := by decide +kernel
theorem d_jdk_38_m_24_10 : decode jdk_38_method_24_code 10 = .ok (.astore_n 2, 1) := by decide +kernel
theorem d_jdk_38_m_24_11 : decode jdk_38_method_24_code 11 = .ok (.aload_n 2, 1) := by decide +kernel
theorem d_jdk_38_m_24_12 : decode jdk_38_method_24_code 12 = .ok (.iload_n 3, 1) := by decide +kernel
theorem d_jdk_38_m_24_13 : decode jdk_38_method_24_code 13 = .ok (.aload_n 1, 1) := by decide +kernel
theorem d_jdk_38_m_24_14 : decode jdk_38_method_24_code 14 = .ok (.aastore, 1) := by decide +kernel
theorem d_jdk_38_m_24_15 : decode jdk_38_method_24_code 15 = .ok (.aload_n 0, 1) := by decide +kernel
theorem d_jdk_38_m_24_16 : decode jdk_38_method_24_code 16 = .ok (.iload_n 3, 1) := by decide +kernel
theorem d_jdk_38_m_24_17 : decode jdk_38_method_24_code 17 = .ok (.iconst 1, 1) := by decide +kernel
theorem d_jdk_38_m_24_18 : decode jdk_38_method_24_code 18 = .ok (.iadd, 1) := by decide +kernel
theorem d_jdk_38_m_24_19 : decode jdk_38_method_24_code 19 = .ok (.putfield 48, 3) := by decide +kernel
theorem d_jdk_38_m_24_22 : decode jdk_38_method_24_code 22 = .ok (.return_, 1) := by decide +kernel
theorem d_jdk_38_m_25_0 : decode jdk_38_method_25_code 0 = .ok (.aload_n 0, 1) := by decide +kernel
theorem d_jdk_38_m_25_1 : decode jdk_38_method_25_code 1 = .ok (.dup, 1) := by decide +kernel
theorem d_jdk_38_m_25_2 : decode jdk_38_method_25_code 2 = .ok (.getfield 63, 3) := by decide +kernel
theorem d_jdk_38_m_25_5 : decode jdk_38_method_25_code 5 = .ok (.iconst 1, 1) := by decide +kernel
theorem d_jdk_38_m_25_6 : decode jdk_38_method_25_code 6 = .ok (.iadd, 1) := by decide +kernel
theorem d_jdk_38_m_25_7 : decode jdk_38_method_25_code 7 = .ok (.putfield 63, 3) := by decide +kernel
theorem d_jdk_38_m_25_10 : decode jdk_38_method_25_code 10 = .ok (.aload_n 0, 1) := by decide +kernel
theorem d_jdk_38_m_25_11 : decode jdk_38_method_25_code 11 = .ok (.aload_n 1, 1) := by decide +kernel
theorem d_jdk_38_m_25_12 : decode jdk_38_method_25_code 12 = .ok (.aload_n 0, 1) := by decide +kernel
theorem d_jdk_38_m_25_13 : decode jdk_38_method_25_code 13 = .ok (.getfield 9, 3) := by decide +kernel
theorem d_jdk_38_m_25_16 : decode jdk_38_method_25_code 16 = .ok (.aload_n 0, 1) := by decide +kernel
theorem d_jdk_38_m_25_17 : decode jdk_38_method_25_code 17 = .ok (.getfield 48, 3) := by decide +kernel
theorem d_jdk_38_m_25_20 : decode jdk_38_method_25_code 20 = .ok (.invokevirtual 131, 3) := by decide +kernel
theorem d_jdk_38_m_25_23 : decode jdk_38_method_25_code 23 = .ok (.iconst 1, 1) := by decide +kernel
theorem d_jdk_38_m_25_24 : decode jdk_38_method_25_code 24 = .ok (.ireturn, 1) := by decide +kernel
theorem d_jdk_41_m_11_0 : decode jdk_41_method_11_code 0 = .ok (.iload_n 0, 1) := by decide +kernel
theorem d_jdk_41_m_11_1 : decode jdk_41_method_11_code 1 = .ok (.ifCond .lt 8, 3) := by decide +kernel
theorem d_jdk_41_m_11_4 : decode jdk_41_method_11_code 4 = .ok (.iload_n 0, 1) := by decide +kernel
theorem d_jdk_41_m_11_5 : decode jdk_41_method_11_code 5 = .ok (.iload_n 1, 1) := by decide +kernel
theorem d_jdk_41_m_11_6 : decode jdk_41_method_11_code 6 = .ok (.if_icmp .lt 10, 3) := by decide +kernel
theorem d_jdk_41_m_11_16 : decode jdk_41_method_11_code 16 = .ok (.iload_n 0, 1) := by decide +kernel
theorem d_jdk_41_m_11_17 : decode jdk_41_method_11_code 17 = .ok (.ireturn, 1) := by decide +kernel
theorem d_jdk_31_m_17_0 : decode jdk_31_method_17_code 0 = .ok (.iload_n 0, 1) := by decide +kernel
theorem d_jdk_31_m_17_1 : decode jdk_31_method_17_code 1 = .ok (.iload_n 1, 1) := by decide +kernel
theorem d_jdk_31_m_17_2 : decode jdk_31_method_17_code 2 = .ok (.aconst_null, 1) := by decide +kernel
theorem d_jdk_31_m_17_3 : decode jdk_31_method_17_code 3 = .ok (.invokestatic 105, 3) := by decide +kernel
theorem d_jdk_31_m_17_6 : decode jdk_31_method_17_code 6 = .ok (.ireturn, 1) := by decide +kernel
theorem d_jdk_38_m_18_0 : decode jdk_38_method_18_code 0 = .ok (.aload_n 0, 1) := by decide +kernel
theorem d_jdk_38_m_18_1 : decode jdk_38_method_18_code 1 = .ok (.getfield 9, 3) := by decide +kernel
theorem d_jdk_38_m_18_4 : decode jdk_38_method_18_code 4 = .ok (.iload_n 1, 1) := by decide +kernel
theorem d_jdk_38_m_18_5 : decode jdk_38_method_18_code 5 = .ok (.aaload, 1) := by decide +kernel
theorem d_jdk_38_m_18_6 : decode jdk_38_method_18_code 6 = .ok (.areturn, 1) := by decide +kernel
theorem d_jdk_38_m_20_0 : decode jdk_38_method_20_code 0 = .ok (.iload_n 1, 1) := by decide +kernel
theorem d_jdk_38_m_20_1 : decode jdk_38_method_20_code 1 = .ok (.aload_n 0, 1) := by decide +kernel
theorem d_jdk_38_m_20_2 : decode jdk_38_method_20_code 2 = .ok (.getfield 48, 3) := by decide +kernel
theorem d_jdk_38_m_20_5 : decode jdk_38_method_20_code 5 = .ok (.invokestatic 118, 3) := by decide +kernel
theorem d_jdk_38_m_20_8 : decode jdk_38_method_20_code 8 = .ok (.pop, 1) := by decide +kernel
theorem d_jdk_38_m_20_9 : decode jdk_38_method_20_code 9 = .ok (.aload_n 0, 1) := by decide +kernel
theorem d_jdk_38_m_20_10 : decode jdk_38_method_20_code 10 = .ok (.iload_n 1, 1) := by decide +kernel
theorem d_jdk_38_m_20_11 : decode jdk_38_method_20_code 11 = .ok (.invokevirtual 123, 3) := by decide +kernel
theorem d_jdk_38_m_20_14 : decode jdk_38_method_20_code 14 = .ok (.areturn, 1) := by decide +kernel
theorem d_prog_14_m_1_0 : decode prog_14_method_1_code 0 = .ok (.aload_n 0, 1) := by decide +kernel
theorem d_prog_14_m_1_1 : decode prog_14_method_1_code 1 = .ok (.invokespecial 1, 3) := by decide +kernel
theorem d_prog_14_m_1_4 : decode prog_14_method_1_code 4 = .ok (.aload_n 0, 1) := by decide +kernel
theorem d_prog_14_m_1_5 : decode prog_14_method_1_code 5 = .ok (.aload_n 1, 1) := by decide +kernel
theorem d_prog_14_m_1_6 : decode prog_14_method_1_code 6 = .ok (.putfield 7, 3) := by decide +kernel
theorem d_prog_14_m_1_9 : decode prog_14_method_1_code 9 = .ok (.return_, 1) := by decide +kernel
theorem d_prog_14_m_4_0 : decode prog_14_method_4_code 0 = .ok (.aload_n 0, 1) := by decide +kernel
theorem d_prog_14_m_4_1 : decode prog_14_method_4_code 1 = .ok (.getfield 7, 3) := by decide +kernel
theorem d_prog_14_m_4_4 : decode prog_14_method_4_code 4 = .ok (.iload_n 1, 1) := by decide +kernel
theorem d_prog_14_m_4_5 : decode prog_14_method_4_code 5 = .ok (.invokeinterface 23 2, 5) := by decide +kernel
theorem d_prog_14_m_4_10 : decode prog_14_method_4_code 10 = .ok (.checkcast 27, 3) := by decide +kernel
theorem d_prog_14_m_4_13 : decode prog_14_method_4_code 13 = .ok (.areturn, 1) := by decide +kernel
theorem pd_0 : parseMethodDescriptor "()V" = some ⟨[], none⟩ := by decide +kernel
theorem pd_1 : parseMethodDescriptor "(II)I" = some ⟨[.int, .int], some .int⟩ := by decide +kernel
theorem pd_2 : parseMethodDescriptor "(I)[Ljava/lang/Object;" = some ⟨[.int], some (.array (.object "java/lang/Object"))⟩ := by decide +kernel
theorem pd_3 : parseMethodDescriptor "()[Ljava/lang/Object;" = some ⟨[], some (.array (.object "java/lang/Object"))⟩ := by decide +kernel
theorem pd_4 : parseMethodDescriptor "(Ljava/lang/Object;[Ljava/lang/Object;I)V" = some ⟨[(.object "java/lang/Object"), (.array (.object "java/lang/Object")), .int], none⟩ := by decide +kernel
theorem pd_5 : parseMethodDescriptor "(IILjava/util/function/BiFunction;)I" = some ⟨[.int, .int, (.object "java/util/function/BiFunction")], some .int⟩ := by decide +kernel
theorem pd_6 : parseMethodDescriptor "(I)Ljava/lang/Object;" = some ⟨[.int], some (.object "java/lang/Object")⟩ := by decide +kernel
theorem pd_7 : parseMethodDescriptor "(Ljava/lang/Object;)Z" = some ⟨[(.object "java/lang/Object")], some .boolean⟩ := by decide +kernel
theorem pd_8 : parseMethodDescriptor "(Ljava/util/List;)V" = some ⟨[(.object "java/util/List")], none⟩ := by decide +kernel
theorem pd_9 : parseMethodDescriptor "(I)[B" = some ⟨[.int], some (.array .byte)⟩ := by decide +kernel
theorem pn_0 : plainName "java/util/AbstractCollection" = true := by first | (simp [plainName, overriddenIn]; done) | decide +kernel
theorem pn_1 : plainName "java/util/AbstractList" = true := by first | (simp [plainName, overriddenIn]; done) | decide +kernel
theorem pn_2 : plainName "java/util/ArrayList" = true := by first | (simp [plainName, overriddenIn]; done) | decide +kernel
theorem pn_3 : plainName "jdk/internal/util/Preconditions" = true := by first | (simp [plainName, overriddenIn]; done) | decide +kernel
theorem pn_4 : plainName "java/util/Objects" = true := by first | (simp [plainName, overriddenIn]; done) | decide +kernel
theorem pn_5 : plainName "com/example/covering/covering/server/Request" = true := by first | (simp [plainName, overriddenIn]; done) | decide +kernel
theorem pn_6 : plainName "com/example/covering/covering/server/RequestWordPinLaw" = true := by first | (simp [plainName, overriddenIn]; done) | decide +kernel
theorem own_lt32 {x y : Int32} : x < y ↔ x.toInt < y.toInt := Int32.lt_iff_toInt_lt
theorem own_eq32 {x y : Int32} : x = y ↔ x.toInt = y.toInt := Int32.toInt_inj.symm
theorem own_i0 : (0 : Int32).toInt = 0 := rfl
theorem own_i1 : (1 : Int32).toInt = 1 := rfl
theorem own_nat {j z : Int32} (h0 : ¬ j < 0) (h : j < z) : j.toNatClampNeg < z.toNatClampNeg := by
  have a := nat_of h0
  have hz : ¬ z < 0 := by rw [own_lt32] at *; rw [own_i0] at *; omega
  have b := nat_of hz
  rw [own_lt32] at h; omega
theorem own_mx {x v : Int32} (h : (x &&& (2147483647 : Int32)) = v) : ¬ v < (0 : Int32) := by
  have e := c_mask x 2147483647 31 (by decide) (by decide)
  rw [h] at e; rw [own_lt32, own_i0]; omega
theorem own_mx1 {x v : Int32} (h : (x &&& (2147483647 : Int32)) = v) (h0 : ¬ v = 0) : ¬ v < (1 : Int32) := by
  have e := c_mask x 2147483647 31 (by decide) (by decide)
  rw [h] at e; rw [own_eq32, own_i0] at h0; rw [own_lt32, own_i1]; omega
theorem own_rem3 {x v : Int32} (h0 : ¬ x < (0 : Int32)) (h : (x % (3 : Int32)) = v) : v = (0 : Int32) ∨ v = (1 : Int32) ∨ v = (2 : Int32) := by
  have e := (c_irem x 3 3 rfl).1 (by rw [own_lt32, own_i0] at h0; omega)
  rw [h] at e
  have : v.toInt = 0 ∨ v.toInt = 1 ∨ v.toInt = 2 := by omega
  rcases this with q | q | q
  · left; exact Int32.toInt_inj.mp q
  · right; left; exact Int32.toInt_inj.mp q
  · right; right; exact Int32.toInt_inj.mp q
theorem own_ushr0 (x q : Int32) (k : Nat) (hk : q.toBitVec.toNat % 32 = k) (hk0 : 0 < k) : ¬ ((x.toUInt32 >>> (q &&& 31).toUInt32).toInt32) < (0 : Int32) := by
  have e := c_iushr x q k hk hk0
  rw [own_lt32, e, own_i0]
  have : 0 ≤ (x.toInt % 4294967296) / ((2 ^ k : Nat) : Int) := Int.ediv_nonneg (Int.emod_nonneg _ (by decide)) (Int.natCast_nonneg _)
  omega
theorem own_rem1 {x v : Int32} (h0 : ¬ x < (0 : Int32)) (h : (x % (1 : Int32)) = v) : v = (0 : Int32) := by
  have e := (c_irem x 1 1 rfl).1 (by rw [own_lt32, own_i0] at h0; omega)
  rw [h] at e; rw [own_eq32, own_i0]; omega
theorem own_rem2 {x v : Int32} (h0 : ¬ x < (0 : Int32)) (h : (x % (2 : Int32)) = v) : v = (0 : Int32) ∨ v = (1 : Int32) := by
  have e := (c_irem x 2 2 rfl).1 (by rw [own_lt32, own_i0] at h0; omega)
  rw [h] at e
  have : v.toInt = 0 ∨ v.toInt = 1 := by omega
  rcases this with q | q
  · left; exact Int32.toInt_inj.mp q
  · right; exact Int32.toInt_inj.mp q
theorem own_eqi {args : Array Value} {s : State} {idx : List Nat} {t : Term} {n : Int32} (h : (Jvm.Cond.eq t (.int n)).value args s none s idx = some true) : t.eval args s none idx s = some (.int n) := by
  obtain ⟨x, y, h1, h2, h3, h4⟩ := cmp_v (Or.inl h)
  cases (Term.int_eval n).symm.trans h2
  obtain ⟨z, rfl⟩ := h4
  have e := gotT (Cond.eq_ints h1 h2) h
  subst e; exact h1
theorem own_len0 {args : Array Value} {s : State} {t : Term} {a : Addr} {cl : Cell} {ty : FieldType} {n : Int32} (A : Arr s s.heap a cl ty) (ev : t.eval args s none [] s = some (.ref a)) (hl : (Term.length t).eval args s none [] s = some (.int n)) : cl.slots.size < 2 ^ 31 ∧ cl.slots.size.toInt32 = n := by
  have h2 : s.arrayAt? a = some cl := A.fin (Vm.Alike.refl _)
  simp only [Term.eval, ev, h2, Option.bind_eq_bind, Option.bind_some] at hl
  split at hl
  · rename_i q; exact ⟨q, by simpa using hl⟩
  · cases hl
theorem own_empty {args : Array Value} {s : State} {t : Term} {a : Addr} {cl : Cell} {ty : FieldType} (hf : Fit s) (A : Arr s s.heap a cl ty) (ev : t.eval args s none [] s = some (.ref a)) (hl : (Term.length t).eval args s none [] s = some (.int 0)) : Arv s s.heap a cl.cls ty (0 : Int32) [] .null :=
  Arv.start hf A (own_len0 A ev hl).1 (own_len0 A ev hl).2 (by decide) rfl trivial

def Q_acini (Z : State) (a : Addr) (h0 : Heap) (n0 : Nat) (v : Option Value) (h : Heap) (L : List Loc) : Prop := v = none ∧ Fr n0 L ∧ h = h0
theorem ef_acini (m : MethodId) (x0 : Addr) : entryFrame m #[(.ref x0)] 1 = mkF m 0 #[.val (.ref x0)] [] := by first | (simp [entryFrame, mkF, argsToLocals, Value.category]; done) | rfl
set_option maxRecDepth 65536 in
set_option maxHeartbeats 40000000 in
theorem rm_acini (l : Launch) (Z : State) (a0 : Array Value) (hw : ∀ d ∈ tables_1, d.before a0 Z = true) (a : Addr) (h0 : Heap) (n0 : Nat) (Z0 : n0 ≤ h0.size) :
    Ct l Z (⟨"java/util/AbstractCollection", "<init>", "()V"⟩ : MethodName) jdk_22_method_1_code 1 none [] ({ frames := 1, cells := 0, slots := 0, locals := 12 } : Room) #[(.ref a)] h0 (Q_acini Z a h0 n0) := by
  refine own_body (plainFor_of_name pn_0) (fun m => ef_acini m a) ?_
  intro p e s m below meth c T0 hx hby hml hZ hown hnm hret hlk X0 e0
  have N0 := Fr.nil n0
  refine g_aloadN X0 hx (hb hby d_jdk_22_m_1_0) rfl rfl rfl ?_
  refine g_initO X0 hx hZ hown (hw _ (List.mem_of_getElem? (i := 20) rfl)) (hw _ (List.mem_of_getElem? (i := 21) rfl)) (hw _ (List.mem_of_getElem? (i := 22) rfl)) e0 (by rw [hml]; rfl) (hb hby d_jdk_22_m_1_1) rfl (by decide) (W := 0) (Nat.le_of_eq rfl) (by decide) fun T1 X1 e1 => ?_
  exact g_ret X1 hx hret hlk (hb hby d_jdk_22_m_1_4) (by decide) (by decide) (by rw [e1]; exact ⟨rfl, N0, rfl⟩)
def Q_abini (Z : State) (a : Addr) (h0 : Heap) (n0 : Nat) (v : Option Value) (h : Heap) (L : List Loc) : Prop := v = none ∧ Fr n0 L ∧ Keep h0 h [a] ∧ Exa Z h a "java/util/ArrayList" ∧ Fld Z h a "java/util/ArrayList" "elementData" "[Ljava/lang/Object;" .null ∧ Fld Z h a "java/util/ArrayList" "size" "I" (.int (0 : Int32)) ∧ Fld Z h a "java/util/AbstractList" "modCount" "I" (.int (0 : Int32))
theorem ef_abini (m : MethodId) (x0 : Addr) : entryFrame m #[(.ref x0)] 1 = mkF m 0 #[.val (.ref x0)] [] := by first | (simp [entryFrame, mkF, argsToLocals, Value.category]; done) | rfl
set_option maxRecDepth 65536 in
set_option maxHeartbeats 40000000 in
theorem rm_abini (l : Launch) (Z : State) (a0 : Array Value) (hw : ∀ d ∈ tables_1, d.before a0 Z = true) (a : Addr) (h0 : Heap) (n0 : Nat) (Z0 : n0 ≤ h0.size) (F_elementData_a : Fld Z h0 a "java/util/ArrayList" "elementData" "[Ljava/lang/Object;" .null) (F_size_a : Fld Z h0 a "java/util/ArrayList" "size" "I" (.int (0 : Int32))) (F_modCount_a : Fld Z h0 a "java/util/AbstractList" "modCount" "I" (.int (0 : Int32))) (E_a : Exa Z h0 a "java/util/ArrayList") (g_a : n0 ≤ a) :
    Ct l Z (⟨"java/util/AbstractList", "<init>", "()V"⟩ : MethodName) jdk_39_method_1_code 1 none [] ({ frames := 2, cells := 0, slots := 0, locals := 24 } : Room) #[(.ref a)] h0 (Q_abini Z a h0 n0) := by
  refine own_body (plainFor_of_name pn_1) (fun m => ef_abini m a) ?_
  intro p e s m below meth c T0 hx hby hml hZ hown hnm hret hlk X0 e0
  have N0 := Fr.nil n0
  refine g_aloadN X0 hx (hb hby d_jdk_39_m_1_0) rfl rfl rfl ?_
  refine g_special X0 hx hZ hown rfl (hw _ (List.mem_of_getElem? (i := 14) rfl)) (hw _ (List.mem_of_getElem? (i := 15) rfl)) (hw _ (List.mem_of_getElem? (i := 18) rfl)) (hw _ (List.mem_of_getElem? (i := 19) rfl)) (by decide) (a := a) (rm_acini l Z a0 hw a h0 n0 Z0) (by rw [hml]; rfl) e0 [] rfl rfl (W := 0) (Nat.le_of_eq rfl) (by decide) (by decide) (by decide) (by decide) (lenOf pd_0 rfl) (hb hby d_jdk_39_m_1_1) rfl fun v1 T1 L1 X1 hQ1 => ?_
  obtain ⟨rfl, Nq1, eh1⟩ := hQ1
  have N1 := Fr.app N0 Nq1
  show Ga _ _ _ _ _ _ _ _ _ _ _ []
  refine g_aloadN X1 hx (hb hby d_jdk_39_m_1_4) rfl rfl rfl ?_
  refine g_iconst X1 hx (r := (0 : Int32)) (hb hby d_jdk_39_m_1_5) rfl rfl ?_
  refine g_putF X1 hx hZ hown (host := "") (Or.inl (hw _ (List.mem_of_getElem? (i := 23) rfl))) Via.refl eh1 F_modCount_a E_a (Or.inl (hw _ (List.mem_of_getElem? (i := 24) rfl))) (hw _ (List.mem_of_getElem? (i := 3) rfl)) (ty := .int) (by decide) rfl rfl (hb hby d_jdk_39_m_1_6) rfl fun T2 h2 X2 e2 W2 F2 => ?_
  have kk2 : Keep h0 h2 [a] := (Keep.refl h0 [a]).wr W2 (Or.inl (by simp))
  have N2 := Fr.snoc X2 N1 g_a
  have Z2 : n0 ≤ h2.size := by rw [W2.size]; exact Z0
  have f3 : Exa Z h2 a "java/util/ArrayList" := (E_a.wr W2)
  have f4 : Fld Z h2 a "java/util/ArrayList" "elementData" "[Ljava/lang/Object;" .null := (F_elementData_a.other W2 (Or.inr (slot_ne (Or.inl (hw _ (List.mem_of_getElem? (i := 27) rfl))) (Or.inl (hw _ (List.mem_of_getElem? (i := 24) rfl))) (by decide) (t := (.array (.object "java/lang/Object"))) (t' := .int) (by decide) (by decide))))
  have f5 : Fld Z h2 a "java/util/ArrayList" "size" "I" (.int (0 : Int32)) := (F_size_a.other W2 (Or.inr (slot_ne (Or.inl (hw _ (List.mem_of_getElem? (i := 36) rfl))) (Or.inl (hw _ (List.mem_of_getElem? (i := 24) rfl))) (by decide) (t := .int) (t' := .int) (by decide) (by decide))))
  exact g_ret X2 hx hret hlk (hb hby d_jdk_39_m_1_9) (by decide) (by decide) (by rw [e2]; exact ⟨rfl, N2, kk2, f3, f4, f5, F2⟩)
def Q_alini (Z : State) (a : Addr) (d0 : Addr) (h0 : Heap) (n0 : Nat) (v : Option Value) (h : Heap) (L : List Loc) : Prop := v = none ∧ Fr n0 L ∧ Keep h0 h [a] ∧ Exa Z h a "java/util/ArrayList" ∧ Fld Z h a "java/util/ArrayList" "elementData" "[Ljava/lang/Object;" (.ref d0) ∧ Fld Z h a "java/util/ArrayList" "size" "I" (.int (0 : Int32)) ∧ Fld Z h a "java/util/AbstractList" "modCount" "I" (.int (0 : Int32))
theorem ef_alini (m : MethodId) (x0 : Addr) : entryFrame m #[(.ref x0)] 1 = mkF m 0 #[.val (.ref x0)] [] := by first | (simp [entryFrame, mkF, argsToLocals, Value.category]; done) | rfl
set_option maxRecDepth 65536 in
set_option maxHeartbeats 40000000 in
theorem rm_alini (l : Launch) (Z : State) (a0 : Array Value) (hw : ∀ d ∈ tables_1, d.before a0 Z = true) (a : Addr) (d0 : Addr) (h0 : Heap) (n0 : Nat) (Z0 : n0 ≤ h0.size) (F_elementData_a : Fld Z h0 a "java/util/ArrayList" "elementData" "[Ljava/lang/Object;" .null) (F_size_a : Fld Z h0 a "java/util/ArrayList" "size" "I" (.int (0 : Int32))) (F_modCount_a : Fld Z h0 a "java/util/AbstractList" "modCount" "I" (.int (0 : Int32))) (E_a : Exa Z h0 a "java/util/ArrayList") (g_a : n0 ≤ a) (old0 : Old Z n0 h0) (S0_DEFAULTCAPACITY_EMPTY_ELEMENTDATA : Sta Z Z.heap "java/util/ArrayList" "DEFAULTCAPACITY_EMPTY_ELEMENTDATA" "[Ljava/lang/Object;" (.ref d0)) :
    Ct l Z (⟨"java/util/ArrayList", "<init>", "()V"⟩ : MethodName) jdk_38_method_2_code 1 none [] ({ frames := 3, cells := 0, slots := 0, locals := 36 } : Room) #[(.ref a)] h0 (Q_alini Z a d0 h0 n0) := by
  refine own_body (plainFor_of_name pn_2) (fun m => ef_alini m a) ?_
  intro p e s m below meth c T0 hx hby hml hZ hown hnm hret hlk X0 e0
  have N0 := Fr.nil n0
  refine g_aloadN X0 hx (hb hby d_jdk_38_m_2_0) rfl rfl rfl ?_
  refine g_special X0 hx hZ hown rfl (hw _ (List.mem_of_getElem? (i := 8) rfl)) (hw _ (List.mem_of_getElem? (i := 9) rfl)) (hw _ (List.mem_of_getElem? (i := 12) rfl)) (hw _ (List.mem_of_getElem? (i := 13) rfl)) (by decide) (a := a) (rm_abini l Z a0 hw a h0 n0 Z0 F_elementData_a F_size_a F_modCount_a E_a g_a) (by rw [hml]; rfl) e0 [] rfl rfl (W := 0) (Nat.le_of_eq rfl) (by decide) (by decide) (by decide) (by decide) (lenOf pd_0 rfl) (hb hby d_jdk_38_m_2_1) rfl fun v1 T1 L1 X1 hQ1 => ?_
  obtain ⟨rfl, Nq1, kc1, p1_0, p1_1, p1_2, p1_3⟩ := hQ1
  have N1 := Fr.app N0 Nq1
  have kk1 : Keep h0 T1.heap [a] := (Keep.refl h0 [a]).trans kc1 (allS (Or.inl (by simp)) all0)
  have Z1 : n0 ≤ T1.heap.size := Nat.le_trans Z0 kc1.1
  show Ga _ _ _ _ _ _ _ _ _ _ _ []
  refine g_aloadN X1 hx (hb hby d_jdk_38_m_2_4) rfl rfl rfl ?_
  have f3 : Old Z n0 T1.heap := (old0.keep kc1 (allS g_a all0))
  refine g_getS X1 hx hZ hown (host := "") (Or.inl (hw _ (List.mem_of_getElem? (i := 25) rfl))) Via.refl rfl (Sta.ext f3.2 S0_DEFAULTCAPACITY_EMPTY_ELEMENTDATA) (hb hby d_jdk_38_m_2_5) rfl fun T2 X2 e2 => ?_
  refine g_putF X2 hx hZ hown (host := "") (Or.inl (hw _ (List.mem_of_getElem? (i := 26) rfl))) Via.refl e2 p1_1 p1_0 (Or.inl (hw _ (List.mem_of_getElem? (i := 27) rfl))) (hw _ (List.mem_of_getElem? (i := 3) rfl)) (ty := (.array (.object "java/lang/Object"))) (by decide) rfl rfl (hb hby d_jdk_38_m_2_8) rfl fun T4 h4 X4 e4 W4 F4 => ?_
  have kk4 : Keep h0 h4 [a] := kk1.wr W4 (Or.inl (by simp))
  have N4 := Fr.snoc X4 N1 g_a
  have Z4 : n0 ≤ h4.size := by rw [W4.size]; exact Z1
  have f5 : Exa Z h4 a "java/util/ArrayList" := (p1_0.wr W4)
  have f6 : Fld Z h4 a "java/util/ArrayList" "size" "I" (.int (0 : Int32)) := (p1_2.other W4 (Or.inr (slot_ne (Or.inl (hw _ (List.mem_of_getElem? (i := 36) rfl))) (Or.inl (hw _ (List.mem_of_getElem? (i := 27) rfl))) (by decide) (t := .int) (t' := (.array (.object "java/lang/Object"))) (by decide) (by decide))))
  have f7 : Fld Z h4 a "java/util/AbstractList" "modCount" "I" (.int (0 : Int32)) := (p1_3.other W4 (Or.inr (slot_ne (Or.inl (hw _ (List.mem_of_getElem? (i := 24) rfl))) (Or.inl (hw _ (List.mem_of_getElem? (i := 27) rfl))) (by decide) (t := .int) (t' := (.array (.object "java/lang/Object"))) (by decide) (by decide))))
  exact g_ret X4 hx hret hlk (hb hby d_jdk_38_m_2_11) (by decide) (by decide) (by rw [e4]; exact ⟨rfl, N4, kk4, f5, F4, f6, f7⟩)
def Q_maxX (Z : State) (x : Int32) (y : Int32) (h0 : Heap) (n0 : Nat) (v : Option Value) (h : Heap) (L : List Loc) : Prop := v = some (.int x) ∧ Fr n0 L ∧ h = h0
theorem ef_maxX (m : MethodId) (x0 : Int32) (x1 : Int32) : entryFrame m #[(.int x0), (.int x1)] 2 = mkF m 0 #[.val (.int x0), .val (.int x1)] [] := by first | (simp [entryFrame, mkF, argsToLocals, Value.category]; done) | rfl
set_option maxRecDepth 65536 in
set_option maxHeartbeats 40000000 in
theorem rm_maxX (l : Launch) (Z : State) (a0 : Array Value) (hw : ∀ d ∈ tables_1, d.before a0 Z = true) (x : Int32) (y : Int32) (h0 : Heap) (n0 : Nat) (Z0 : n0 ≤ h0.size) (hxy : ¬ x < y) :
    Ct l Z (⟨"java/lang/Math", "max", "(II)I"⟩ : MethodName) jdk_29_method_65_code 2 (some .int) [] ({ frames := 0, cells := 0, slots := 0, locals := 0 } : Room) #[(.int x), (.int y)] h0 (Q_maxX Z x y h0 n0) := by
  refine own_body (Jvm.Free.JP.mathPlain rfl (by decide +kernel)) (fun m => ef_maxX m x y) ?_
  intro p e s m below meth c T0 hx hby hml hZ hown hnm hret hlk X0 e0
  have N0 := Fr.nil n0
  refine g_iloadN X0 hx (hb hby d_jdk_29_m_65_0) rfl rfl ?_
  refine g_iloadN X0 hx (hb hby d_jdk_29_m_65_1) rfl rfl ?_
  have hc2 : ¬ x < y := hxy
  refine g_icmpN X0 hx (hb hby d_jdk_29_m_65_2) rfl (XT.ii_lt_f hc2) ?_
  refine g_iloadN X0 hx (hb hby d_jdk_29_m_65_5) rfl rfl ?_
  refine g_goto X0 hx (q := 10) (hb hby d_jdk_29_m_65_6) (by decide) (by decide) ?_
  exact g_retI X0 hx hret hlk (hb hby d_jdk_29_m_65_10) (by decide) (by decide) (by rw [e0]; exact ⟨rfl, N0, rfl⟩)
def Q_grow1 (Z : State) (a : Addr) (mc : Int32) (d0 : Addr) (kd : ClassId) (h0 : Heap) (n0 : Nat) (v : Option Value) (h : Heap) (L : List Loc) : Prop := ∃ (b : Addr) (kb : ClassId), v = some (.ref b) ∧ Fr n0 L ∧ Keep h0 h [a] ∧ h0.size ≤ b ∧ Exa Z h a "java/util/ArrayList" ∧ Fld Z h a "java/util/ArrayList" "elementData" "[Ljava/lang/Object;" (.ref b) ∧ Fld Z h a "java/util/ArrayList" "size" "I" (.int (0 : Int32)) ∧ Fld Z h a "java/util/AbstractList" "modCount" "I" (.int mc) ∧ Ovr Z kb "java/lang/Object" ∧ Arv Z h b kb (.object "java/lang/Object") (10 : Int32) [.null, .null, .null, .null, .null, .null, .null, .null, .null, .null] .null
theorem ef_grow1 (m : MethodId) (x0 : Addr) (x1 : Int32) : entryFrame m #[(.ref x0), (.int x1)] 4 = mkF m 0 #[.val (.ref x0), .val (.int x1), .unset, .unset] [] := by first | (simp [entryFrame, mkF, argsToLocals, Value.category]; done) | rfl
set_option maxRecDepth 65536 in
set_option maxHeartbeats 40000000 in
theorem rm_grow1 (l : Launch) (Z : State) (a0 : Array Value) (hw : ∀ d ∈ tables_1, d.before a0 Z = true) (a : Addr) (mc : Int32) (d0 : Addr) (kd : ClassId) (h0 : Heap) (n0 : Nat) (Z0 : n0 ≤ h0.size) (F_elementData_a : Fld Z h0 a "java/util/ArrayList" "elementData" "[Ljava/lang/Object;" (.ref d0)) (F_size_a : Fld Z h0 a "java/util/ArrayList" "size" "I" (.int (0 : Int32))) (F_modCount_a : Fld Z h0 a "java/util/AbstractList" "modCount" "I" (.int mc)) (E_a : Exa Z h0 a "java/util/ArrayList") (g_a : n0 ≤ a) (old0 : Old Z n0 h0) (S0_DEFAULTCAPACITY_EMPTY_ELEMENTDATA : Sta Z Z.heap "java/util/ArrayList" "DEFAULTCAPACITY_EMPTY_ELEMENTDATA" "[Ljava/lang/Object;" (.ref d0)) (V0_d0 : Arv Z Z.heap d0 kd (.object "java/lang/Object") (0 : Int32) [] .null) :
    Ct l Z (⟨"java/util/ArrayList", "grow", "(I)[Ljava/lang/Object;"⟩ : MethodName) jdk_38_method_6_code 4 (some (.array (.object "java/lang/Object"))) [] ({ frames := 1, cells := 1, slots := 10, locals := 14 } : Room) #[(.ref a), (.int (1 : Int32))] h0 (Q_grow1 Z a mc d0 kd h0 n0) := by
  refine own_body (plainFor_of_name pn_2) (fun m => ef_grow1 m a (1 : Int32)) ?_
  intro p e s m below meth c T0 hx hby hml hZ hown hnm hret hlk X0 e0
  have N0 := Fr.nil n0
  refine g_aloadN X0 hx (hb hby d_jdk_38_m_6_0) rfl rfl rfl ?_
  refine g_getF X0 hx hZ hown (host := "") (Or.inl (hw _ (List.mem_of_getElem? (i := 26) rfl))) Via.refl e0 F_elementData_a (hb hby d_jdk_38_m_6_1) rfl fun T1 X1 e1 => ?_
  refine g_len X1 hx hZ e1 (V0_d0.ext old0.2) (hb hby d_jdk_38_m_6_4) rfl ?_
  refine g_istoreN X1 hx (Ls' := #[.val (.ref a), .val (.int (1 : Int32)), .val (.int (0 : Int32)), .unset]) (hb hby d_jdk_38_m_6_5) rfl rfl ?_
  refine g_iloadN X1 hx (hb hby d_jdk_38_m_6_6) rfl rfl ?_
  refine g_ifN X1 hx (hb hby d_jdk_38_m_6_7) rfl (XT.i0_gt_f (by decide : ¬ (0 : Int32) < (0 : Int32))) ?_
  refine g_aloadN X1 hx (hb hby d_jdk_38_m_6_10) rfl rfl rfl ?_
  refine g_getF X1 hx hZ hown (host := "") (Or.inl (hw _ (List.mem_of_getElem? (i := 26) rfl))) Via.refl e1 F_elementData_a (hb hby d_jdk_38_m_6_11) rfl fun T2 X2 e2 => ?_
  refine g_getS X2 hx hZ hown (host := "") (Or.inl (hw _ (List.mem_of_getElem? (i := 25) rfl))) Via.refl e2 (Sta.ext old0.2 S0_DEFAULTCAPACITY_EMPTY_ELEMENTDATA) (hb hby d_jdk_38_m_6_14) rfl fun T3 X3 e3 => ?_
  refine g_acmp X3 hx (q := 45) (same := true) (hb hby d_jdk_38_m_6_17) rfl rfl (decide_eq_true rfl) (by decide) (by decide) ?_
  refine g_aloadN X3 hx (hb hby d_jdk_38_m_6_45) rfl rfl rfl ?_
  refine g_bipush X3 hx (r := (10 : Int32)) (hb hby d_jdk_38_m_6_46) rfl rfl ?_
  refine g_iloadN X3 hx (hb hby d_jdk_38_m_6_48) rfl rfl ?_
  refine g_static X3 hx hZ hown (hw _ (List.mem_of_getElem? (i := 52) rfl)) (hw _ (List.mem_of_getElem? (i := 53) rfl)) (hw _ (List.mem_of_getElem? (i := 54) rfl)) (hw _ (List.mem_of_getElem? (i := 55) rfl)) (by decide) (rm_maxX l Z a0 hw (10 : Int32) (1 : Int32) h0 n0 Z0 (by first | decide | assumption | rfl | (intro _; rfl))) (by rw [hml]; rfl) e3 [(.int (10 : Int32)), (.int (1 : Int32))] rfl rfl (W := 1) (Nat.le_of_eq rfl) (by decide) (by decide) (by decide) (by decide) (lenOf pd_1 rfl) (hb hby d_jdk_38_m_6_49) rfl fun v4 T4 L4 X4 hQ4 => ?_
  obtain ⟨rfl, Nq4, eh4⟩ := hQ4
  have N4 := Fr.app N0 Nq4
  show Ga _ _ _ _ _ _ _ _ _ _ _ [(.int (10 : Int32)), (.ref a)]
  refine g_anewarray X4 hx hZ hown (hw _ (List.mem_of_getElem? (i := 56) rfl)) (hw _ (List.mem_of_getElem? (i := 57) rfl)) eh4 (by decide) 10 (by decide) (by decide) (by decide) (by decide) (ad := "[Ljava/lang/Object;") (by decide) (hb hby d_jdk_38_m_6_52) rfl fun T5 h5 b5 ka5 X5 e5 q5 E5 A5 O5 V5 => ?_
  have ne_a_b5 : a ≠ b5 := own_ne F_elementData_a.lt q5
  have g_b5 : n0 ≤ b5 := Nat.le_trans Z0 (Nat.le_of_eq q5.symm)
  have sz_b5 : h0.size ≤ b5 := Nat.le_trans (Keep.refl h0 [a]).1 (Nat.le_of_eq q5.symm)
  have Z5 : n0 ≤ h5.size := Nat.le_trans Z0 E5.1
  have kk5 : Keep h0 h5 [a] := (Keep.refl h0 [a]).ext E5
  have Vn5 : Arv Z h5 b5 ka5 (.object "java/lang/Object") (10 : Int32) [.null, .null, .null, .null, .null, .null, .null, .null, .null, .null] .null := V5
  refine g_dup_x1 X5 hx (hb hby d_jdk_38_m_6_55) rfl rfl rfl ?_
  have f7 : Fld Z h5 a "java/util/ArrayList" "elementData" "[Ljava/lang/Object;" (.ref d0) := (F_elementData_a.ext E5)
  have f8 : Exa Z h5 a "java/util/ArrayList" := (E_a.ext E5)
  refine g_putF X5 hx hZ hown (host := "") (Or.inl (hw _ (List.mem_of_getElem? (i := 26) rfl))) Via.refl e5 f7 f8 (Or.inl (hw _ (List.mem_of_getElem? (i := 27) rfl))) (hw _ (List.mem_of_getElem? (i := 3) rfl)) (ty := (.array (.object "java/lang/Object"))) (by decide) rfl rfl (hb hby d_jdk_38_m_6_56) rfl fun T6 h6 X6 e6 W6 F6 => ?_
  have kk6 : Keep h0 h6 [a] := kk5.wr W6 (Or.inl (by simp))
  have N6 := Fr.snoc X6 N4 g_a
  have Z6 : n0 ≤ h6.size := by rw [W6.size]; exact Z5
  have f9 : Exa Z h6 a "java/util/ArrayList" := (f8.wr W6)
  have f10 : Fld Z h6 a "java/util/ArrayList" "size" "I" (.int (0 : Int32)) := ((F_size_a.ext E5).other W6 (Or.inr (slot_ne (Or.inl (hw _ (List.mem_of_getElem? (i := 36) rfl))) (Or.inl (hw _ (List.mem_of_getElem? (i := 27) rfl))) (by decide) (t := .int) (t' := (.array (.object "java/lang/Object"))) (by decide) (by decide))))
  have f11 : Fld Z h6 a "java/util/AbstractList" "modCount" "I" (.int mc) := ((F_modCount_a.ext E5).other W6 (Or.inr (slot_ne (Or.inl (hw _ (List.mem_of_getElem? (i := 24) rfl))) (Or.inl (hw _ (List.mem_of_getElem? (i := 27) rfl))) (by decide) (t := .int) (t' := (.array (.object "java/lang/Object"))) (by decide) (by decide))))
  have f12 : Arv Z h6 b5 ka5 (.object "java/lang/Object") (10 : Int32) [.null, .null, .null, .null, .null, .null, .null, .null, .null, .null] .null := (Vn5.other W6 (Ne.symm ne_a_b5))
  exact g_retR X6 hx hret hlk rfl rfl rfl (hb hby d_jdk_38_m_6_59) (by decide) (by decide) (by rw [e6]; exact ⟨b5, ka5, rfl, N6, kk6, sz_b5, f9, F6, f10, f11, O5, f12⟩)
def Q_grow0 (Z : State) (a : Addr) (mc : Int32) (d0 : Addr) (kd : ClassId) (h0 : Heap) (n0 : Nat) (v : Option Value) (h : Heap) (L : List Loc) : Prop := ∃ (b : Addr) (kb : ClassId), v = some (.ref b) ∧ Fr n0 L ∧ Keep h0 h [a] ∧ h0.size ≤ b ∧ Exa Z h a "java/util/ArrayList" ∧ Fld Z h a "java/util/ArrayList" "elementData" "[Ljava/lang/Object;" (.ref b) ∧ Fld Z h a "java/util/ArrayList" "size" "I" (.int (0 : Int32)) ∧ Fld Z h a "java/util/AbstractList" "modCount" "I" (.int mc) ∧ Ovr Z kb "java/lang/Object" ∧ Arv Z h b kb (.object "java/lang/Object") (10 : Int32) [.null, .null, .null, .null, .null, .null, .null, .null, .null, .null] .null
theorem ef_grow0 (m : MethodId) (x0 : Addr) : entryFrame m #[(.ref x0)] 1 = mkF m 0 #[.val (.ref x0)] [] := by first | (simp [entryFrame, mkF, argsToLocals, Value.category]; done) | rfl
set_option maxRecDepth 65536 in
set_option maxHeartbeats 40000000 in
theorem rm_grow0 (l : Launch) (Z : State) (a0 : Array Value) (hw : ∀ d ∈ tables_1, d.before a0 Z = true) (a : Addr) (mc : Int32) (d0 : Addr) (kd : ClassId) (h0 : Heap) (n0 : Nat) (Z0 : n0 ≤ h0.size) (F_elementData_a : Fld Z h0 a "java/util/ArrayList" "elementData" "[Ljava/lang/Object;" (.ref d0)) (F_size_a : Fld Z h0 a "java/util/ArrayList" "size" "I" (.int (0 : Int32))) (F_modCount_a : Fld Z h0 a "java/util/AbstractList" "modCount" "I" (.int mc)) (E_a : Exa Z h0 a "java/util/ArrayList") (g_a : n0 ≤ a) (old0 : Old Z n0 h0) (S0_DEFAULTCAPACITY_EMPTY_ELEMENTDATA : Sta Z Z.heap "java/util/ArrayList" "DEFAULTCAPACITY_EMPTY_ELEMENTDATA" "[Ljava/lang/Object;" (.ref d0)) (V0_d0 : Arv Z Z.heap d0 kd (.object "java/lang/Object") (0 : Int32) [] .null) :
    Ct l Z (⟨"java/util/ArrayList", "grow", "()[Ljava/lang/Object;"⟩ : MethodName) jdk_38_method_7_code 1 (some (.array (.object "java/lang/Object"))) [] ({ frames := 2, cells := 1, slots := 10, locals := 29 } : Room) #[(.ref a)] h0 (Q_grow0 Z a mc d0 kd h0 n0) := by
  refine own_body (plainFor_of_name pn_2) (fun m => ef_grow0 m a) ?_
  intro p e s m below meth c T0 hx hby hml hZ hown hnm hret hlk X0 e0
  have N0 := Fr.nil n0
  refine g_aloadN X0 hx (hb hby d_jdk_38_m_7_0) rfl rfl rfl ?_
  refine g_aloadN X0 hx (hb hby d_jdk_38_m_7_1) rfl rfl rfl ?_
  refine g_getF X0 hx hZ hown (host := "") (Or.inl (hw _ (List.mem_of_getElem? (i := 35) rfl))) Via.refl e0 F_size_a (hb hby d_jdk_38_m_7_2) rfl fun T1 X1 e1 => ?_
  refine g_iconst X1 hx (r := (1 : Int32)) (hb hby d_jdk_38_m_7_5) rfl rfl ?_
  refine g_iadd X1 hx (r := (1 : Int32)) (hb hby d_jdk_38_m_7_6) rfl rfl ?_
  refine g_private X1 hx hZ hown (hw _ (List.mem_of_getElem? (i := 47) rfl)) (hw _ (List.mem_of_getElem? (i := 48) rfl)) (hw _ (List.mem_of_getElem? (i := 3) rfl)) (hw _ (List.mem_of_getElem? (i := 49) rfl)) (hw _ (List.mem_of_getElem? (i := 4) rfl)) (hw _ (List.mem_of_getElem? (i := 51) rfl)) (by decide) (a := a) E_a (rm_grow1 l Z a0 hw a mc d0 kd h0 n0 Z0 F_elementData_a F_size_a F_modCount_a E_a g_a old0 S0_DEFAULTCAPACITY_EMPTY_ELEMENTDATA V0_d0) (by rw [hml]; rfl) e1 [(.int (1 : Int32))] rfl rfl (W := 0) (Nat.le_of_eq rfl) (by decide) (by decide) (by decide) (by decide) (lenOf pd_2 rfl) (hb hby d_jdk_38_m_7_7) rfl fun v2 T2 L2 X2 hQ2 => ?_
  obtain ⟨b_2, kb_2, rfl, Nq2, kc2, p2_0, p2_1, p2_2, p2_3, p2_4, p2_5, p2_6⟩ := hQ2
  have N2 := Fr.app N0 Nq2
  have ne_a_b_2 : a ≠ b_2 := own_neK F_elementData_a.lt p2_0
  have g_b_2 : n0 ≤ b_2 := Nat.le_trans Z0 p2_0
  have sz_b_2 : h0.size ≤ b_2 := Nat.le_trans (Keep.refl h0 [a]).1 p2_0
  have kk2 : Keep h0 T2.heap [a] := (Keep.refl h0 [a]).trans kc2 (allS (Or.inl (by simp)) all0)
  have Z2 : n0 ≤ T2.heap.size := Nat.le_trans Z0 kc2.1
  have pv2_6 : Arv Z T2.heap b_2 kb_2 (.object "java/lang/Object") (10 : Int32) [.null, .null, .null, .null, .null, .null, .null, .null, .null, .null] .null := p2_6
  show Ga _ _ _ _ _ _ _ _ _ _ _ [(.ref b_2)]
  exact g_retR X2 hx hret hlk rfl rfl rfl (hb hby d_jdk_38_m_7_10) (by decide) (by decide) ⟨b_2, kb_2, rfl, N2, kk2, sz_b_2, p2_1, p2_2, p2_3, p2_4, p2_5, pv2_6⟩
def Q_add3f (Z : State) (a : Addr) (mc : Int32) (d0 : Addr) (kd : ClassId) (x : Addr) (h0 : Heap) (n0 : Nat) (v : Option Value) (h : Heap) (L : List Loc) : Prop := ∃ (b : Addr) (kb : ClassId), v = none ∧ Fr n0 L ∧ Keep h0 h [a] ∧ h0.size ≤ b ∧ Exa Z h a "java/util/ArrayList" ∧ Fld Z h a "java/util/ArrayList" "elementData" "[Ljava/lang/Object;" (.ref b) ∧ Fld Z h a "java/util/ArrayList" "size" "I" (.int (1 : Int32)) ∧ Fld Z h a "java/util/AbstractList" "modCount" "I" (.int mc) ∧ Ovr Z kb "java/lang/Object" ∧ Arv Z h b kb (.object "java/lang/Object") (10 : Int32) [(.ref x), .null, .null, .null, .null, .null, .null, .null, .null, .null] .null
theorem ef_add3f (m : MethodId) (x0 : Addr) (x1 : Addr) (x2 : Addr) (x3 : Int32) : entryFrame m #[(.ref x0), (.ref x1), (.ref x2), (.int x3)] 4 = mkF m 0 #[.val (.ref x0), .val (.ref x1), .val (.ref x2), .val (.int x3)] [] := by first | (simp [entryFrame, mkF, argsToLocals, Value.category]; done) | rfl
set_option maxRecDepth 65536 in
set_option maxHeartbeats 40000000 in
theorem rm_add3f (l : Launch) (Z : State) (a0 : Array Value) (hw : ∀ d ∈ tables_1, d.before a0 Z = true) (a : Addr) (mc : Int32) (d0 : Addr) (kd : ClassId) (x : Addr) (h0 : Heap) (n0 : Nat) (Z0 : n0 ≤ h0.size) (F_elementData_a : Fld Z h0 a "java/util/ArrayList" "elementData" "[Ljava/lang/Object;" (.ref d0)) (F_size_a : Fld Z h0 a "java/util/ArrayList" "size" "I" (.int (0 : Int32))) (F_modCount_a : Fld Z h0 a "java/util/AbstractList" "modCount" "I" (.int mc)) (E_a : Exa Z h0 a "java/util/ArrayList") (g_a : n0 ≤ a) (old0 : Old Z n0 h0) (S0_DEFAULTCAPACITY_EMPTY_ELEMENTDATA : Sta Z Z.heap "java/util/ArrayList" "DEFAULTCAPACITY_EMPTY_ELEMENTDATA" "[Ljava/lang/Object;" (.ref d0)) (V0_d0 : Arv Z Z.heap d0 kd (.object "java/lang/Object") (0 : Int32) [] .null) (I_x_8 : Ins Z h0 x "java/lang/Object" true) :
    Ct l Z (⟨"java/util/ArrayList", "add", "(Ljava/lang/Object;[Ljava/lang/Object;I)V"⟩ : MethodName) jdk_38_method_24_code 4 none [] ({ frames := 3, cells := 1, slots := 10, locals := 41 } : Room) #[(.ref a), (.ref x), (.ref d0), (.int (0 : Int32))] h0 (Q_add3f Z a mc d0 kd x h0 n0) := by
  refine own_body (plainFor_of_name pn_2) (fun m => ef_add3f m a x d0 (0 : Int32)) ?_
  intro p e s m below meth c T0 hx hby hml hZ hown hnm hret hlk X0 e0
  have N0 := Fr.nil n0
  refine g_iloadN X0 hx (hb hby d_jdk_38_m_24_0) rfl rfl ?_
  refine g_aloadN X0 hx (hb hby d_jdk_38_m_24_1) rfl rfl rfl ?_
  refine g_len X0 hx hZ e0 (V0_d0.ext old0.2) (hb hby d_jdk_38_m_24_2) rfl ?_
  refine g_icmpN X0 hx (hb hby d_jdk_38_m_24_3) rfl (XT.ii_ne_f (by decide : (0 : Int32) = (0 : Int32))) ?_
  refine g_aloadN X0 hx (hb hby d_jdk_38_m_24_6) rfl rfl rfl ?_
  refine g_private X0 hx hZ hown (hw _ (List.mem_of_getElem? (i := 42) rfl)) (hw _ (List.mem_of_getElem? (i := 43) rfl)) (hw _ (List.mem_of_getElem? (i := 3) rfl)) (hw _ (List.mem_of_getElem? (i := 44) rfl)) (hw _ (List.mem_of_getElem? (i := 4) rfl)) (hw _ (List.mem_of_getElem? (i := 46) rfl)) (by decide) (a := a) E_a (rm_grow0 l Z a0 hw a mc d0 kd h0 n0 Z0 F_elementData_a F_size_a F_modCount_a E_a g_a old0 S0_DEFAULTCAPACITY_EMPTY_ELEMENTDATA V0_d0) (by rw [hml]; rfl) e0 [] rfl rfl (W := 0) (Nat.le_of_eq rfl) (by decide) (by decide) (by decide) (by decide) (lenOf pd_3 rfl) (hb hby d_jdk_38_m_24_7) rfl fun v1 T1 L1 X1 hQ1 => ?_
  obtain ⟨b_1, kb_1, rfl, Nq1, kc1, p1_0, p1_1, p1_2, p1_3, p1_4, p1_5, p1_6⟩ := hQ1
  have N1 := Fr.app N0 Nq1
  have ne_a_b_1 : a ≠ b_1 := own_neK F_elementData_a.lt p1_0
  have g_b_1 : n0 ≤ b_1 := Nat.le_trans Z0 p1_0
  have sz_b_1 : h0.size ≤ b_1 := Nat.le_trans (Keep.refl h0 [a]).1 p1_0
  have kk1 : Keep h0 T1.heap [a] := (Keep.refl h0 [a]).trans kc1 (allS (Or.inl (by simp)) all0)
  have Z1 : n0 ≤ T1.heap.size := Nat.le_trans Z0 kc1.1
  have pv1_6 : Arv Z T1.heap b_1 kb_1 (.object "java/lang/Object") (10 : Int32) [.null, .null, .null, .null, .null, .null, .null, .null, .null, .null] .null := p1_6
  show Ga _ _ _ _ _ _ _ _ _ _ _ [(.ref b_1)]
  refine g_astoreN X1 hx (Ls' := #[.val (.ref a), .val (.ref x), .val (.ref b_1), .val (.int (0 : Int32))]) (hb hby d_jdk_38_m_24_10) rfl rfl rfl ?_
  refine g_aloadN X1 hx (hb hby d_jdk_38_m_24_11) rfl rfl rfl ?_
  refine g_iloadN X1 hx (hb hby d_jdk_38_m_24_12) rfl rfl ?_
  refine g_aloadN X1 hx (hb hby d_jdk_38_m_24_13) rfl rfl rfl ?_
  have f3 : Ins Z T1.heap x "java/lang/Object" true := (own_insK I_x_8 kc1)
  refine g_aastore X1 hx hZ rfl pv1_6 rfl (x := .ref x) rfl (own_sto pv1_6 p1_5 f3) ⟨by decide, by decide⟩ (Nat.le_of_ble_eq_true rfl) (hb hby d_jdk_38_m_24_14) rfl fun T2 h2 X2 e2 W2 V2 => ?_
  have Vn2 : Arv Z h2 b_1 kb_1 (.object "java/lang/Object") (10 : Int32) [(.ref x), .null, .null, .null, .null, .null, .null, .null, .null, .null] .null := V2
  have kk2 : Keep h0 h2 [a] := kk1.wr W2 (Or.inr sz_b_1)
  have N2 := Fr.snoc X2 N1 g_b_1
  have Z2 : n0 ≤ h2.size := by rw [W2.size]; exact Z1
  refine g_aloadN X2 hx (hb hby d_jdk_38_m_24_15) rfl rfl rfl ?_
  refine g_iloadN X2 hx (hb hby d_jdk_38_m_24_16) rfl rfl ?_
  refine g_iconst X2 hx (r := (1 : Int32)) (hb hby d_jdk_38_m_24_17) rfl rfl ?_
  refine g_iadd X2 hx (r := (1 : Int32)) (hb hby d_jdk_38_m_24_18) rfl rfl ?_
  have f5 : Fld Z h2 a "java/util/ArrayList" "size" "I" (.int (0 : Int32)) := (p1_3.other W2 (Or.inl ne_a_b_1))
  have f6 : Exa Z h2 a "java/util/ArrayList" := (p1_1.wr W2)
  refine g_putF X2 hx hZ hown (host := "") (Or.inl (hw _ (List.mem_of_getElem? (i := 35) rfl))) Via.refl e2 f5 f6 (Or.inl (hw _ (List.mem_of_getElem? (i := 36) rfl))) (hw _ (List.mem_of_getElem? (i := 3) rfl)) (ty := .int) (by decide) rfl rfl (hb hby d_jdk_38_m_24_19) rfl fun T4 h4 X4 e4 W4 F4 => ?_
  have kk4 : Keep h0 h4 [a] := kk2.wr W4 (Or.inl (by simp))
  have N4 := Fr.snoc X4 N2 g_a
  have Z4 : n0 ≤ h4.size := by rw [W4.size]; exact Z2
  have f7 : Exa Z h4 a "java/util/ArrayList" := (f6.wr W4)
  have f8 : Fld Z h4 a "java/util/ArrayList" "elementData" "[Ljava/lang/Object;" (.ref b_1) := ((p1_2.other W2 (Or.inl ne_a_b_1)).other W4 (Or.inr (slot_ne (Or.inl (hw _ (List.mem_of_getElem? (i := 27) rfl))) (Or.inl (hw _ (List.mem_of_getElem? (i := 36) rfl))) (by decide) (t := (.array (.object "java/lang/Object"))) (t' := .int) (by decide) (by decide))))
  have f9 : Fld Z h4 a "java/util/AbstractList" "modCount" "I" (.int mc) := ((p1_4.other W2 (Or.inl ne_a_b_1)).other W4 (Or.inr (slot_ne (Or.inl (hw _ (List.mem_of_getElem? (i := 24) rfl))) (Or.inl (hw _ (List.mem_of_getElem? (i := 36) rfl))) (by decide) (t := .int) (t' := .int) (by decide) (by decide))))
  have f10 : Arv Z h4 b_1 kb_1 (.object "java/lang/Object") (10 : Int32) [(.ref x), .null, .null, .null, .null, .null, .null, .null, .null, .null] .null := (Vn2.other W4 (Ne.symm ne_a_b_1))
  exact g_ret X4 hx hret hlk (hb hby d_jdk_38_m_24_22) (by decide) (by decide) (by rw [e4]; exact ⟨b_1, kb_1, rfl, N4, kk4, sz_b_1, f7, f8, F4, f9, p1_5, f10⟩)
def Q_addf (Z : State) (a : Addr) (mc : Int32) (d0 : Addr) (kd : ClassId) (x : Addr) (h0 : Heap) (n0 : Nat) (v : Option Value) (h : Heap) (L : List Loc) : Prop := ∃ (b : Addr) (kb : ClassId), v = some (.int (1 : Int32)) ∧ Fr n0 L ∧ Keep h0 h [a] ∧ h0.size ≤ b ∧ Exa Z h a "java/util/ArrayList" ∧ Fld Z h a "java/util/ArrayList" "elementData" "[Ljava/lang/Object;" (.ref b) ∧ Fld Z h a "java/util/ArrayList" "size" "I" (.int (1 : Int32)) ∧ Fld Z h a "java/util/AbstractList" "modCount" "I" (.int (mc + (1 : Int32))) ∧ Ovr Z kb "java/lang/Object" ∧ Arv Z h b kb (.object "java/lang/Object") (10 : Int32) [(.ref x), .null, .null, .null, .null, .null, .null, .null, .null, .null] .null
theorem ef_addf (m : MethodId) (x0 : Addr) (x1 : Addr) : entryFrame m #[(.ref x0), (.ref x1)] 2 = mkF m 0 #[.val (.ref x0), .val (.ref x1)] [] := by first | (simp [entryFrame, mkF, argsToLocals, Value.category]; done) | rfl
set_option maxRecDepth 65536 in
set_option maxHeartbeats 40000000 in
theorem rm_addf (l : Launch) (Z : State) (a0 : Array Value) (hw : ∀ d ∈ tables_1, d.before a0 Z = true) (a : Addr) (mc : Int32) (d0 : Addr) (kd : ClassId) (x : Addr) (h0 : Heap) (n0 : Nat) (Z0 : n0 ≤ h0.size) (F_elementData_a : Fld Z h0 a "java/util/ArrayList" "elementData" "[Ljava/lang/Object;" (.ref d0)) (F_size_a : Fld Z h0 a "java/util/ArrayList" "size" "I" (.int (0 : Int32))) (F_modCount_a : Fld Z h0 a "java/util/AbstractList" "modCount" "I" (.int mc)) (E_a : Exa Z h0 a "java/util/ArrayList") (g_a : n0 ≤ a) (old0 : Old Z n0 h0) (S0_DEFAULTCAPACITY_EMPTY_ELEMENTDATA : Sta Z Z.heap "java/util/ArrayList" "DEFAULTCAPACITY_EMPTY_ELEMENTDATA" "[Ljava/lang/Object;" (.ref d0)) (V0_d0 : Arv Z Z.heap d0 kd (.object "java/lang/Object") (0 : Int32) [] .null) (I_x_8 : Ins Z h0 x "java/lang/Object" true) :
    Ct l Z (⟨"java/util/ArrayList", "add", "(Ljava/lang/Object;)Z"⟩ : MethodName) jdk_38_method_25_code 2 (some .boolean) [] ({ frames := 4, cells := 1, slots := 10, locals := 56 } : Room) #[(.ref a), (.ref x)] h0 (Q_addf Z a mc d0 kd x h0 n0) := by
  refine own_body (plainFor_of_name pn_2) (fun m => ef_addf m a x) ?_
  intro p e s m below meth c T0 hx hby hml hZ hown hnm hret hlk X0 e0
  have N0 := Fr.nil n0
  refine g_aloadN X0 hx (hb hby d_jdk_38_m_25_0) rfl rfl rfl ?_
  refine g_dup X0 hx (hb hby d_jdk_38_m_25_1) rfl rfl ?_
  refine g_getF X0 hx hZ hown (host := "") (Or.inl (hw _ (List.mem_of_getElem? (i := 33) rfl))) (Via.of (hw _ (List.mem_of_getElem? (i := 34) rfl))) e0 F_modCount_a (hb hby d_jdk_38_m_25_2) rfl fun T1 X1 e1 => ?_
  refine g_iconst X1 hx (r := (1 : Int32)) (hb hby d_jdk_38_m_25_5) rfl rfl ?_
  refine g_iadd X1 hx (hb hby d_jdk_38_m_25_6) rfl rfl ?_
  refine g_putF X1 hx hZ hown (host := "") (Or.inl (hw _ (List.mem_of_getElem? (i := 33) rfl))) (Via.of (hw _ (List.mem_of_getElem? (i := 34) rfl))) e1 F_modCount_a E_a (Or.inl (hw _ (List.mem_of_getElem? (i := 24) rfl))) (hw _ (List.mem_of_getElem? (i := 3) rfl)) (ty := .int) (by decide) rfl rfl (hb hby d_jdk_38_m_25_7) rfl fun T2 h2 X2 e2 W2 F2 => ?_
  have kk2 : Keep h0 h2 [a] := (Keep.refl h0 [a]).wr W2 (Or.inl (by simp))
  have N2 := Fr.snoc X2 N0 g_a
  have Z2 : n0 ≤ h2.size := by rw [W2.size]; exact Z0
  refine g_aloadN X2 hx (hb hby d_jdk_38_m_25_10) rfl rfl rfl ?_
  refine g_aloadN X2 hx (hb hby d_jdk_38_m_25_11) rfl rfl rfl ?_
  refine g_aloadN X2 hx (hb hby d_jdk_38_m_25_12) rfl rfl rfl ?_
  have f4 : Fld Z h2 a "java/util/ArrayList" "elementData" "[Ljava/lang/Object;" (.ref d0) := (F_elementData_a.other W2 (Or.inr (slot_ne (Or.inl (hw _ (List.mem_of_getElem? (i := 27) rfl))) (Or.inl (hw _ (List.mem_of_getElem? (i := 24) rfl))) (by decide) (t := (.array (.object "java/lang/Object"))) (t' := .int) (by decide) (by decide))))
  refine g_getF X2 hx hZ hown (host := "") (Or.inl (hw _ (List.mem_of_getElem? (i := 26) rfl))) Via.refl e2 f4 (hb hby d_jdk_38_m_25_13) rfl fun T3 X3 e3 => ?_
  refine g_aloadN X3 hx (hb hby d_jdk_38_m_25_16) rfl rfl rfl ?_
  have f6 : Fld Z h2 a "java/util/ArrayList" "size" "I" (.int (0 : Int32)) := (F_size_a.other W2 (Or.inr (slot_ne (Or.inl (hw _ (List.mem_of_getElem? (i := 36) rfl))) (Or.inl (hw _ (List.mem_of_getElem? (i := 24) rfl))) (by decide) (t := .int) (t' := .int) (by decide) (by decide))))
  refine g_getF X3 hx hZ hown (host := "") (Or.inl (hw _ (List.mem_of_getElem? (i := 35) rfl))) Via.refl e3 f6 (hb hby d_jdk_38_m_25_17) rfl fun T5 X5 e5 => ?_
  have f8 : Exa Z h2 a "java/util/ArrayList" := (E_a.wr W2)
  have f9 : Old Z n0 h2 := (old0.wr W2 g_a)
  have f10 : Ins Z h2 x "java/lang/Object" true := (I_x_8.wr W2)
  refine g_private X5 hx hZ hown (hw _ (List.mem_of_getElem? (i := 37) rfl)) (hw _ (List.mem_of_getElem? (i := 38) rfl)) (hw _ (List.mem_of_getElem? (i := 3) rfl)) (hw _ (List.mem_of_getElem? (i := 39) rfl)) (hw _ (List.mem_of_getElem? (i := 4) rfl)) (hw _ (List.mem_of_getElem? (i := 41) rfl)) (by decide) (a := a) f8 (rm_add3f l Z a0 hw a (mc + (1 : Int32)) d0 kd x h2 n0 Z2 f4 f6 F2 f8 g_a f9 S0_DEFAULTCAPACITY_EMPTY_ELEMENTDATA V0_d0 f10) (by rw [hml]; rfl) e5 [(.ref x), (.ref d0), (.int (0 : Int32))] rfl rfl (W := 0) (Nat.le_of_eq rfl) (by decide) (by decide) (by decide) (by decide) (lenOf pd_4 rfl) (hb hby d_jdk_38_m_25_20) rfl fun v7 T7 L7 X7 hQ7 => ?_
  obtain ⟨b_7, kb_7, rfl, Nq7, kc7, p7_0, p7_1, p7_2, p7_3, p7_4, p7_5, p7_6⟩ := hQ7
  have N7 := Fr.app N2 Nq7
  have ne_a_b_7 : a ≠ b_7 := own_neK f4.lt p7_0
  have g_b_7 : n0 ≤ b_7 := Nat.le_trans Z2 p7_0
  have sz_b_7 : h0.size ≤ b_7 := Nat.le_trans kk2.1 p7_0
  have kk7 : Keep h0 T7.heap [a] := kk2.trans kc7 (allS (Or.inl (by simp)) all0)
  have Z7 : n0 ≤ T7.heap.size := Nat.le_trans Z2 kc7.1
  have pv7_6 : Arv Z T7.heap b_7 kb_7 (.object "java/lang/Object") (10 : Int32) [(.ref x), .null, .null, .null, .null, .null, .null, .null, .null, .null] .null := p7_6
  show Ga _ _ _ _ _ _ _ _ _ _ _ []
  refine g_iconst X7 hx (r := (1 : Int32)) (hb hby d_jdk_38_m_25_23) rfl rfl ?_
  exact g_retN X7 hx (t := .boolean) (r := (1 : Int32)) hret (by simp) hlk (hb hby d_jdk_38_m_25_24) rfl (by decide) (by decide) ⟨b_7, kb_7, rfl, N7, kk7, sz_b_7, p7_1, p7_2, p7_3, p7_4, p7_5, pv7_6⟩
def Q_add3 (Z : State) (a : Addr) (mc : Int32) (b : Addr) (kb : ClassId) (n : Int32) (vs : List Value) (x : Addr) (h0 : Heap) (n0 : Nat) (v : Option Value) (h : Heap) (L : List Loc) : Prop := v = none ∧ Fr n0 L ∧ Keep h0 h [a, b] ∧ Exa Z h a "java/util/ArrayList" ∧ Fld Z h a "java/util/ArrayList" "elementData" "[Ljava/lang/Object;" (.ref b) ∧ Fld Z h a "java/util/ArrayList" "size" "I" (.int (n + (1 : Int32))) ∧ Fld Z h a "java/util/AbstractList" "modCount" "I" (.int mc) ∧ Arv Z h b kb (.object "java/lang/Object") (10 : Int32) (List.set vs (n).toNatClampNeg (.ref x)) .null
theorem ef_add3 (m : MethodId) (x0 : Addr) (x1 : Addr) (x2 : Addr) (x3 : Int32) : entryFrame m #[(.ref x0), (.ref x1), (.ref x2), (.int x3)] 4 = mkF m 0 #[.val (.ref x0), .val (.ref x1), .val (.ref x2), .val (.int x3)] [] := by first | (simp [entryFrame, mkF, argsToLocals, Value.category]; done) | rfl
set_option maxRecDepth 65536 in
set_option maxHeartbeats 40000000 in
theorem rm_add3 (l : Launch) (Z : State) (a0 : Array Value) (hw : ∀ d ∈ tables_1, d.before a0 Z = true) (a : Addr) (mc : Int32) (b : Addr) (kb : ClassId) (n : Int32) (vs : List Value) (x : Addr) (h0 : Heap) (n0 : Nat) (Z0 : n0 ≤ h0.size) (F_elementData_a : Fld Z h0 a "java/util/ArrayList" "elementData" "[Ljava/lang/Object;" (.ref b)) (F_size_a : Fld Z h0 a "java/util/ArrayList" "size" "I" (.int n)) (F_modCount_a : Fld Z h0 a "java/util/AbstractList" "modCount" "I" (.int mc)) (E_a : Exa Z h0 a "java/util/ArrayList") (g_a : n0 ≤ a) (g_b : n0 ≤ b) (ne_a_b : a ≠ b) (V_b : Arv Z h0 b kb (.object "java/lang/Object") (10 : Int32) vs .null) (O_kb : Ovr Z kb "java/lang/Object") (hn0 : ¬ n < (0 : Int32)) (hn1 : n < (10 : Int32)) (hle : vs.length = 10) (I_x_12 : Ins Z h0 x "java/lang/Object" true) :
    Ct l Z (⟨"java/util/ArrayList", "add", "(Ljava/lang/Object;[Ljava/lang/Object;I)V"⟩ : MethodName) jdk_38_method_24_code 4 none [] ({ frames := 0, cells := 0, slots := 0, locals := 0 } : Room) #[(.ref a), (.ref x), (.ref b), (.int n)] h0 (Q_add3 Z a mc b kb n vs x h0 n0) := by
  refine own_body (plainFor_of_name pn_2) (fun m => ef_add3 m a x b n) ?_
  intro p e s m below meth c T0 hx hby hml hZ hown hnm hret hlk X0 e0
  have N0 := Fr.nil n0
  refine g_iloadN X0 hx (hb hby d_jdk_38_m_24_0) rfl rfl ?_
  refine g_aloadN X0 hx (hb hby d_jdk_38_m_24_1) rfl rfl rfl ?_
  refine g_len X0 hx hZ e0 V_b (hb hby d_jdk_38_m_24_2) rfl ?_
  have hc3 : ¬ n = (10 : Int32) := (fun q => absurd hn1 (by rw [q]; decide))
  refine g_icmpY X0 hx (q := 11) (hb hby d_jdk_38_m_24_3) (XT.ii_ne_t hc3) (by decide) (by decide) ?_
  refine g_aloadN X0 hx (hb hby d_jdk_38_m_24_11) rfl rfl rfl ?_
  refine g_iloadN X0 hx (hb hby d_jdk_38_m_24_12) rfl rfl ?_
  refine g_aloadN X0 hx (hb hby d_jdk_38_m_24_13) rfl rfl rfl ?_
  refine g_aastore X0 hx hZ e0 V_b rfl (x := .ref x) rfl (own_sto V_b O_kb I_x_12) ⟨hn0, hn1⟩ (by rw [hle]; exact own_nat hn0 hn1) (hb hby d_jdk_38_m_24_14) rfl fun T1 h1 X1 e1 W1 V1 => ?_
  have Vn1 : Arv Z h1 b kb (.object "java/lang/Object") (10 : Int32) (List.set vs (n).toNatClampNeg (.ref x)) .null := V1
  have kk1 : Keep h0 h1 [a, b] := (Keep.refl h0 [a, b]).wr W1 (Or.inl (by simp))
  have N1 := Fr.snoc X1 N0 g_b
  have Z1 : n0 ≤ h1.size := by rw [W1.size]; exact Z0
  refine g_aloadN X1 hx (hb hby d_jdk_38_m_24_15) rfl rfl rfl ?_
  refine g_iloadN X1 hx (hb hby d_jdk_38_m_24_16) rfl rfl ?_
  refine g_iconst X1 hx (r := (1 : Int32)) (hb hby d_jdk_38_m_24_17) rfl rfl ?_
  refine g_iadd X1 hx (hb hby d_jdk_38_m_24_18) rfl rfl ?_
  have f3 : Fld Z h1 a "java/util/ArrayList" "size" "I" (.int n) := (F_size_a.other W1 (Or.inl ne_a_b))
  have f4 : Exa Z h1 a "java/util/ArrayList" := (E_a.wr W1)
  refine g_putF X1 hx hZ hown (host := "") (Or.inl (hw _ (List.mem_of_getElem? (i := 35) rfl))) Via.refl e1 f3 f4 (Or.inl (hw _ (List.mem_of_getElem? (i := 36) rfl))) (hw _ (List.mem_of_getElem? (i := 3) rfl)) (ty := .int) (by decide) rfl rfl (hb hby d_jdk_38_m_24_19) rfl fun T2 h2 X2 e2 W2 F2 => ?_
  have kk2 : Keep h0 h2 [a, b] := kk1.wr W2 (Or.inl (by simp))
  have N2 := Fr.snoc X2 N1 g_a
  have Z2 : n0 ≤ h2.size := by rw [W2.size]; exact Z1
  have f5 : Exa Z h2 a "java/util/ArrayList" := (f4.wr W2)
  have f6 : Fld Z h2 a "java/util/ArrayList" "elementData" "[Ljava/lang/Object;" (.ref b) := ((F_elementData_a.other W1 (Or.inl ne_a_b)).other W2 (Or.inr (slot_ne (Or.inl (hw _ (List.mem_of_getElem? (i := 27) rfl))) (Or.inl (hw _ (List.mem_of_getElem? (i := 36) rfl))) (by decide) (t := (.array (.object "java/lang/Object"))) (t' := .int) (by decide) (by decide))))
  have f7 : Fld Z h2 a "java/util/AbstractList" "modCount" "I" (.int mc) := ((F_modCount_a.other W1 (Or.inl ne_a_b)).other W2 (Or.inr (slot_ne (Or.inl (hw _ (List.mem_of_getElem? (i := 24) rfl))) (Or.inl (hw _ (List.mem_of_getElem? (i := 36) rfl))) (by decide) (t := .int) (t' := .int) (by decide) (by decide))))
  have f8 : Arv Z h2 b kb (.object "java/lang/Object") (10 : Int32) (List.set vs (n).toNatClampNeg (.ref x)) .null := (Vn1.other W2 (Ne.symm ne_a_b))
  exact g_ret X2 hx hret hlk (hb hby d_jdk_38_m_24_22) (by decide) (by decide) (by rw [e2]; exact ⟨rfl, N2, kk2, f5, f6, F2, f7, f8⟩)
def Q_addn (Z : State) (a : Addr) (mc : Int32) (b : Addr) (kb : ClassId) (n : Int32) (vs : List Value) (x : Addr) (h0 : Heap) (n0 : Nat) (v : Option Value) (h : Heap) (L : List Loc) : Prop := v = some (.int (1 : Int32)) ∧ Fr n0 L ∧ Keep h0 h [a, b] ∧ Exa Z h a "java/util/ArrayList" ∧ Fld Z h a "java/util/ArrayList" "elementData" "[Ljava/lang/Object;" (.ref b) ∧ Fld Z h a "java/util/ArrayList" "size" "I" (.int (n + (1 : Int32))) ∧ Fld Z h a "java/util/AbstractList" "modCount" "I" (.int (mc + (1 : Int32))) ∧ Arv Z h b kb (.object "java/lang/Object") (10 : Int32) (List.set vs (n).toNatClampNeg (.ref x)) .null
theorem ef_addn (m : MethodId) (x0 : Addr) (x1 : Addr) : entryFrame m #[(.ref x0), (.ref x1)] 2 = mkF m 0 #[.val (.ref x0), .val (.ref x1)] [] := by first | (simp [entryFrame, mkF, argsToLocals, Value.category]; done) | rfl
set_option maxRecDepth 65536 in
set_option maxHeartbeats 40000000 in
theorem rm_addn (l : Launch) (Z : State) (a0 : Array Value) (hw : ∀ d ∈ tables_1, d.before a0 Z = true) (a : Addr) (mc : Int32) (b : Addr) (kb : ClassId) (n : Int32) (vs : List Value) (x : Addr) (h0 : Heap) (n0 : Nat) (Z0 : n0 ≤ h0.size) (F_elementData_a : Fld Z h0 a "java/util/ArrayList" "elementData" "[Ljava/lang/Object;" (.ref b)) (F_size_a : Fld Z h0 a "java/util/ArrayList" "size" "I" (.int n)) (F_modCount_a : Fld Z h0 a "java/util/AbstractList" "modCount" "I" (.int mc)) (E_a : Exa Z h0 a "java/util/ArrayList") (g_a : n0 ≤ a) (g_b : n0 ≤ b) (ne_a_b : a ≠ b) (V_b : Arv Z h0 b kb (.object "java/lang/Object") (10 : Int32) vs .null) (O_kb : Ovr Z kb "java/lang/Object") (hn0 : ¬ n < (0 : Int32)) (hn1 : n < (10 : Int32)) (hle : vs.length = 10) (I_x_12 : Ins Z h0 x "java/lang/Object" true) :
    Ct l Z (⟨"java/util/ArrayList", "add", "(Ljava/lang/Object;)Z"⟩ : MethodName) jdk_38_method_25_code 2 (some .boolean) [] ({ frames := 1, cells := 0, slots := 0, locals := 15 } : Room) #[(.ref a), (.ref x)] h0 (Q_addn Z a mc b kb n vs x h0 n0) := by
  refine own_body (plainFor_of_name pn_2) (fun m => ef_addn m a x) ?_
  intro p e s m below meth c T0 hx hby hml hZ hown hnm hret hlk X0 e0
  have N0 := Fr.nil n0
  refine g_aloadN X0 hx (hb hby d_jdk_38_m_25_0) rfl rfl rfl ?_
  refine g_dup X0 hx (hb hby d_jdk_38_m_25_1) rfl rfl ?_
  refine g_getF X0 hx hZ hown (host := "") (Or.inl (hw _ (List.mem_of_getElem? (i := 33) rfl))) (Via.of (hw _ (List.mem_of_getElem? (i := 34) rfl))) e0 F_modCount_a (hb hby d_jdk_38_m_25_2) rfl fun T1 X1 e1 => ?_
  refine g_iconst X1 hx (r := (1 : Int32)) (hb hby d_jdk_38_m_25_5) rfl rfl ?_
  refine g_iadd X1 hx (hb hby d_jdk_38_m_25_6) rfl rfl ?_
  refine g_putF X1 hx hZ hown (host := "") (Or.inl (hw _ (List.mem_of_getElem? (i := 33) rfl))) (Via.of (hw _ (List.mem_of_getElem? (i := 34) rfl))) e1 F_modCount_a E_a (Or.inl (hw _ (List.mem_of_getElem? (i := 24) rfl))) (hw _ (List.mem_of_getElem? (i := 3) rfl)) (ty := .int) (by decide) rfl rfl (hb hby d_jdk_38_m_25_7) rfl fun T2 h2 X2 e2 W2 F2 => ?_
  have kk2 : Keep h0 h2 [a, b] := (Keep.refl h0 [a, b]).wr W2 (Or.inl (by simp))
  have N2 := Fr.snoc X2 N0 g_a
  have Z2 : n0 ≤ h2.size := by rw [W2.size]; exact Z0
  refine g_aloadN X2 hx (hb hby d_jdk_38_m_25_10) rfl rfl rfl ?_
  refine g_aloadN X2 hx (hb hby d_jdk_38_m_25_11) rfl rfl rfl ?_
  refine g_aloadN X2 hx (hb hby d_jdk_38_m_25_12) rfl rfl rfl ?_
  have f4 : Fld Z h2 a "java/util/ArrayList" "elementData" "[Ljava/lang/Object;" (.ref b) := (F_elementData_a.other W2 (Or.inr (slot_ne (Or.inl (hw _ (List.mem_of_getElem? (i := 27) rfl))) (Or.inl (hw _ (List.mem_of_getElem? (i := 24) rfl))) (by decide) (t := (.array (.object "java/lang/Object"))) (t' := .int) (by decide) (by decide))))
  refine g_getF X2 hx hZ hown (host := "") (Or.inl (hw _ (List.mem_of_getElem? (i := 26) rfl))) Via.refl e2 f4 (hb hby d_jdk_38_m_25_13) rfl fun T3 X3 e3 => ?_
  refine g_aloadN X3 hx (hb hby d_jdk_38_m_25_16) rfl rfl rfl ?_
  have f6 : Fld Z h2 a "java/util/ArrayList" "size" "I" (.int n) := (F_size_a.other W2 (Or.inr (slot_ne (Or.inl (hw _ (List.mem_of_getElem? (i := 36) rfl))) (Or.inl (hw _ (List.mem_of_getElem? (i := 24) rfl))) (by decide) (t := .int) (t' := .int) (by decide) (by decide))))
  refine g_getF X3 hx hZ hown (host := "") (Or.inl (hw _ (List.mem_of_getElem? (i := 35) rfl))) Via.refl e3 f6 (hb hby d_jdk_38_m_25_17) rfl fun T5 X5 e5 => ?_
  have f8 : Exa Z h2 a "java/util/ArrayList" := (E_a.wr W2)
  have f9 : Arv Z h2 b kb (.object "java/lang/Object") (10 : Int32) vs .null := (V_b.other W2 (Ne.symm ne_a_b))
  have f10 : Ins Z h2 x "java/lang/Object" true := (I_x_12.wr W2)
  refine g_private X5 hx hZ hown (hw _ (List.mem_of_getElem? (i := 37) rfl)) (hw _ (List.mem_of_getElem? (i := 38) rfl)) (hw _ (List.mem_of_getElem? (i := 3) rfl)) (hw _ (List.mem_of_getElem? (i := 39) rfl)) (hw _ (List.mem_of_getElem? (i := 4) rfl)) (hw _ (List.mem_of_getElem? (i := 41) rfl)) (by decide) (a := a) f8 (rm_add3 l Z a0 hw a (mc + (1 : Int32)) b kb n vs x h2 n0 Z2 f4 f6 F2 f8 g_a g_b ne_a_b f9 O_kb hn0 hn1 hle f10) (by rw [hml]; rfl) e5 [(.ref x), (.ref b), (.int n)] rfl rfl (W := 0) (Nat.le_of_eq rfl) (by decide) (by decide) (by decide) (by decide) (lenOf pd_4 rfl) (hb hby d_jdk_38_m_25_20) rfl fun v7 T7 L7 X7 hQ7 => ?_
  obtain ⟨rfl, Nq7, kc7, p7_0, p7_1, p7_2, p7_3, p7_4⟩ := hQ7
  have N7 := Fr.app N2 Nq7
  have kk7 : Keep h0 T7.heap [a, b] := kk2.trans kc7 (allS (Or.inl (by simp)) (allS (Or.inl (by simp)) all0))
  have Z7 : n0 ≤ T7.heap.size := Nat.le_trans Z2 kc7.1
  show Ga _ _ _ _ _ _ _ _ _ _ _ []
  refine g_iconst X7 hx (r := (1 : Int32)) (hb hby d_jdk_38_m_25_23) rfl rfl ?_
  exact g_retN X7 hx (t := .boolean) (r := (1 : Int32)) hret (by simp) hlk (hb hby d_jdk_38_m_25_24) rfl (by decide) (by decide) ⟨rfl, N7, kk7, p7_0, p7_1, p7_2, p7_3, p7_4⟩
def Q_pci (Z : State) (i : Int32) (n : Int32) (h0 : Heap) (n0 : Nat) (v : Option Value) (h : Heap) (L : List Loc) : Prop := v = some (.int i) ∧ Fr n0 L ∧ h = h0
theorem ef_pci (m : MethodId) (x0 : Int32) (x1 : Int32) : entryFrame m #[(.int x0), (.int x1), .null] 3 = mkF m 0 #[.val (.int x0), .val (.int x1), .val .null] [] := by first | (simp [entryFrame, mkF, argsToLocals, Value.category]; done) | rfl
set_option maxRecDepth 65536 in
set_option maxHeartbeats 40000000 in
theorem rm_pci (l : Launch) (Z : State) (a0 : Array Value) (hw : ∀ d ∈ tables_1, d.before a0 Z = true) (i : Int32) (n : Int32) (h0 : Heap) (n0 : Nat) (Z0 : n0 ≤ h0.size) (hi0 : ¬ i < (0 : Int32)) (hi1 : i < n) :
    Ct l Z (⟨"jdk/internal/util/Preconditions", "checkIndex", "(IILjava/util/function/BiFunction;)I"⟩ : MethodName) jdk_41_method_11_code 3 (some .int) [] ({ frames := 0, cells := 0, slots := 0, locals := 0 } : Room) #[(.int i), (.int n), .null] h0 (Q_pci Z i n h0 n0) := by
  refine own_body (plainFor_of_name pn_3) (fun m => ef_pci m i n) ?_
  intro p e s m below meth c T0 hx hby hml hZ hown hnm hret hlk X0 e0
  have N0 := Fr.nil n0
  refine g_iloadN X0 hx (hb hby d_jdk_41_m_11_0) rfl rfl ?_
  have hc1 : ¬ i < (0 : Int32) := hi0
  refine g_ifN X0 hx (hb hby d_jdk_41_m_11_1) rfl (XT.i0_lt_f hc1) ?_
  refine g_iloadN X0 hx (hb hby d_jdk_41_m_11_4) rfl rfl ?_
  refine g_iloadN X0 hx (hb hby d_jdk_41_m_11_5) rfl rfl ?_
  have hc6 : i < n := hi1
  refine g_icmpY X0 hx (q := 16) (hb hby d_jdk_41_m_11_6) (XT.ii_lt_t hc6) (by decide) (by decide) ?_
  refine g_iloadN X0 hx (hb hby d_jdk_41_m_11_16) rfl rfl ?_
  exact g_retI X0 hx hret hlk (hb hby d_jdk_41_m_11_17) (by decide) (by decide) (by rw [e0]; exact ⟨rfl, N0, rfl⟩)
def Q_oci (Z : State) (i : Int32) (n : Int32) (h0 : Heap) (n0 : Nat) (v : Option Value) (h : Heap) (L : List Loc) : Prop := v = some (.int i) ∧ Fr n0 L ∧ h = h0
theorem ef_oci (m : MethodId) (x0 : Int32) (x1 : Int32) : entryFrame m #[(.int x0), (.int x1)] 2 = mkF m 0 #[.val (.int x0), .val (.int x1)] [] := by first | (simp [entryFrame, mkF, argsToLocals, Value.category]; done) | rfl
set_option maxRecDepth 65536 in
set_option maxHeartbeats 40000000 in
theorem rm_oci (l : Launch) (Z : State) (a0 : Array Value) (hw : ∀ d ∈ tables_1, d.before a0 Z = true) (i : Int32) (n : Int32) (h0 : Heap) (n0 : Nat) (Z0 : n0 ≤ h0.size) (hi0 : ¬ i < (0 : Int32)) (hi1 : i < n) :
    Ct l Z (⟨"java/util/Objects", "checkIndex", "(II)I"⟩ : MethodName) jdk_31_method_17_code 2 (some .int) [] ({ frames := 1, cells := 0, slots := 0, locals := 14 } : Room) #[(.int i), (.int n)] h0 (Q_oci Z i n h0 n0) := by
  refine own_body (plainFor_of_name pn_4) (fun m => ef_oci m i n) ?_
  intro p e s m below meth c T0 hx hby hml hZ hown hnm hret hlk X0 e0
  have N0 := Fr.nil n0
  refine g_iloadN X0 hx (hb hby d_jdk_31_m_17_0) rfl rfl ?_
  refine g_iloadN X0 hx (hb hby d_jdk_31_m_17_1) rfl rfl ?_
  refine g_aconst_null X0 hx (hb hby d_jdk_31_m_17_2) rfl  ?_
  refine g_static X0 hx hZ hown (hw _ (List.mem_of_getElem? (i := 86) rfl)) (hw _ (List.mem_of_getElem? (i := 87) rfl)) (hw _ (List.mem_of_getElem? (i := 88) rfl)) (hw _ (List.mem_of_getElem? (i := 89) rfl)) (by decide) (rm_pci l Z a0 hw i n h0 n0 Z0 (by first | decide | assumption | rfl | (intro _; rfl)) (by first | decide | assumption | rfl | (intro _; rfl))) (by rw [hml]; rfl) e0 [(.int i), (.int n), .null] rfl rfl (W := 0) (Nat.le_of_eq rfl) (by decide) (by decide) (by decide) (by decide) (lenOf pd_5 rfl) (hb hby d_jdk_31_m_17_3) rfl fun v1 T1 L1 X1 hQ1 => ?_
  obtain ⟨rfl, Nq1, eh1⟩ := hQ1
  have N1 := Fr.app N0 Nq1
  show Ga _ _ _ _ _ _ _ _ _ _ _ [(.int i)]
  exact g_retI X1 hx hret hlk (hb hby d_jdk_31_m_17_6) (by decide) (by decide) (by rw [eh1]; exact ⟨rfl, N1, rfl⟩)
def Q_eldat (Z : State) (a : Addr) (b : Addr) (kb : ClassId) (n : Int32) (vs : List Value) (i : Int32) (r : Addr) (h0 : Heap) (n0 : Nat) (v : Option Value) (h : Heap) (L : List Loc) : Prop := v = some (.ref r) ∧ Fr n0 L ∧ h = h0
theorem ef_eldat (m : MethodId) (x0 : Addr) (x1 : Int32) : entryFrame m #[(.ref x0), (.int x1)] 2 = mkF m 0 #[.val (.ref x0), .val (.int x1)] [] := by first | (simp [entryFrame, mkF, argsToLocals, Value.category]; done) | rfl
set_option maxRecDepth 65536 in
set_option maxHeartbeats 40000000 in
theorem rm_eldat (l : Launch) (Z : State) (a0 : Array Value) (hw : ∀ d ∈ tables_1, d.before a0 Z = true) (a : Addr) (b : Addr) (kb : ClassId) (n : Int32) (vs : List Value) (i : Int32) (r : Addr) (h0 : Heap) (n0 : Nat) (Z0 : n0 ≤ h0.size) (F_size_a : Fld Z h0 a "java/util/ArrayList" "size" "I" (.int n)) (F_elementData_a : Fld Z h0 a "java/util/ArrayList" "elementData" "[Ljava/lang/Object;" (.ref b)) (V_b : Arv Z h0 b kb (.object "java/lang/Object") (10 : Int32) vs .null) (E_a : Exa Z h0 a "java/util/ArrayList") (hi0 : ¬ i < (0 : Int32)) (hi1 : i < n) (hi2 : i < (10 : Int32)) (hvr : vs.getD i.toNatClampNeg .null = .ref r) :
    Ct l Z (⟨"java/util/ArrayList", "elementData", "(I)Ljava/lang/Object;"⟩ : MethodName) jdk_38_method_18_code 2 (some (.object "java/lang/Object")) [] ({ frames := 0, cells := 0, slots := 0, locals := 0 } : Room) #[(.ref a), (.int i)] h0 (Q_eldat Z a b kb n vs i r h0 n0) := by
  refine own_body (plainFor_of_name pn_2) (fun m => ef_eldat m a i) ?_
  intro p e s m below meth c T0 hx hby hml hZ hown hnm hret hlk X0 e0
  have N0 := Fr.nil n0
  refine g_aloadN X0 hx (hb hby d_jdk_38_m_18_0) rfl rfl rfl ?_
  refine g_getF X0 hx hZ hown (host := "") (Or.inl (hw _ (List.mem_of_getElem? (i := 26) rfl))) Via.refl e0 F_elementData_a (hb hby d_jdk_38_m_18_1) rfl fun T1 X1 e1 => ?_
  refine g_iloadN X1 hx (hb hby d_jdk_38_m_18_4) rfl rfl ?_
  refine g_aaload X1 hx hZ e1 V_b rfl (v := (.ref r)) ⟨hi0, hi2⟩ hvr (hb hby d_jdk_38_m_18_5) rfl ?_
  exact g_retR X1 hx hret hlk rfl rfl rfl (hb hby d_jdk_38_m_18_6) (by decide) (by decide) (by rw [e1]; exact ⟨rfl, N0, rfl⟩)
def Q_alget (Z : State) (a : Addr) (b : Addr) (kb : ClassId) (n : Int32) (vs : List Value) (i : Int32) (r : Addr) (h0 : Heap) (n0 : Nat) (v : Option Value) (h : Heap) (L : List Loc) : Prop := v = some (.ref r) ∧ Fr n0 L ∧ h = h0
theorem ef_alget (m : MethodId) (x0 : Addr) (x1 : Int32) : entryFrame m #[(.ref x0), (.int x1)] 2 = mkF m 0 #[.val (.ref x0), .val (.int x1)] [] := by first | (simp [entryFrame, mkF, argsToLocals, Value.category]; done) | rfl
set_option maxRecDepth 65536 in
set_option maxHeartbeats 40000000 in
theorem rm_alget (l : Launch) (Z : State) (a0 : Array Value) (hw : ∀ d ∈ tables_1, d.before a0 Z = true) (a : Addr) (b : Addr) (kb : ClassId) (n : Int32) (vs : List Value) (i : Int32) (r : Addr) (h0 : Heap) (n0 : Nat) (Z0 : n0 ≤ h0.size) (F_size_a : Fld Z h0 a "java/util/ArrayList" "size" "I" (.int n)) (F_elementData_a : Fld Z h0 a "java/util/ArrayList" "elementData" "[Ljava/lang/Object;" (.ref b)) (V_b : Arv Z h0 b kb (.object "java/lang/Object") (10 : Int32) vs .null) (E_a : Exa Z h0 a "java/util/ArrayList") (hi0 : ¬ i < (0 : Int32)) (hi1 : i < n) (hi2 : i < (10 : Int32)) (hvr : vs.getD i.toNatClampNeg .null = .ref r) :
    Ct l Z (⟨"java/util/ArrayList", "get", "(I)Ljava/lang/Object;"⟩ : MethodName) jdk_38_method_20_code 2 (some (.object "java/lang/Object")) [] ({ frames := 2, cells := 0, slots := 0, locals := 27 } : Room) #[(.ref a), (.int i)] h0 (Q_alget Z a b kb n vs i r h0 n0) := by
  refine own_body (plainFor_of_name pn_2) (fun m => ef_alget m a i) ?_
  intro p e s m below meth c T0 hx hby hml hZ hown hnm hret hlk X0 e0
  have N0 := Fr.nil n0
  refine g_iloadN X0 hx (hb hby d_jdk_38_m_20_0) rfl rfl ?_
  refine g_aloadN X0 hx (hb hby d_jdk_38_m_20_1) rfl rfl rfl ?_
  refine g_getF X0 hx hZ hown (host := "") (Or.inl (hw _ (List.mem_of_getElem? (i := 35) rfl))) Via.refl e0 F_size_a (hb hby d_jdk_38_m_20_2) rfl fun T1 X1 e1 => ?_
  refine g_static X1 hx hZ hown (hw _ (List.mem_of_getElem? (i := 82) rfl)) (hw _ (List.mem_of_getElem? (i := 83) rfl)) (hw _ (List.mem_of_getElem? (i := 84) rfl)) (hw _ (List.mem_of_getElem? (i := 85) rfl)) (by decide) (rm_oci l Z a0 hw i n h0 n0 Z0 hi0 hi1) (by rw [hml]; rfl) e1 [(.int i), (.int n)] rfl rfl (W := 0) (Nat.le_of_eq rfl) (by decide) (by decide) (by decide) (by decide) (lenOf pd_1 rfl) (hb hby d_jdk_38_m_20_5) rfl fun v2 T2 L2 X2 hQ2 => ?_
  obtain ⟨rfl, Nq2, eh2⟩ := hQ2
  have N2 := Fr.app N0 Nq2
  show Ga _ _ _ _ _ _ _ _ _ _ _ [(.int i)]
  refine g_pop X2 hx (hb hby d_jdk_38_m_20_8) rfl rfl ?_
  refine g_aloadN X2 hx (hb hby d_jdk_38_m_20_9) rfl rfl rfl ?_
  refine g_iloadN X2 hx (hb hby d_jdk_38_m_20_10) rfl rfl ?_
  refine g_virtual X2 hx hZ hown (hw _ (List.mem_of_getElem? (i := 90) rfl)) (hw _ (List.mem_of_getElem? (i := 91) rfl)) (notFace_of_selects (args := #[]) (mvT hZ (hw _ (List.mem_of_getElem? (i := 93) rfl)))) (hw _ (List.mem_of_getElem? (i := 93) rfl)) (hw _ (List.mem_of_getElem? (i := 92) rfl)) (hw _ (List.mem_of_getElem? (i := 4) rfl)) (hw _ (List.mem_of_getElem? (i := 94) rfl)) (by decide) (a := a) E_a (rm_eldat l Z a0 hw a b kb n vs i r h0 n0 Z0 F_size_a F_elementData_a V_b E_a hi0 hi1 hi2 hvr) (by rw [hml]; rfl) eh2 [(.int i)] rfl rfl (W := 0) (Nat.le_of_eq rfl) (by decide) (by decide) (by decide) (by decide) (lenOf pd_6 rfl) (hb hby d_jdk_38_m_20_11) rfl fun v3 T3 L3 X3 hQ3 => ?_
  obtain ⟨rfl, Nq3, eh3⟩ := hQ3
  have N3 := Fr.app N2 Nq3
  show Ga _ _ _ _ _ _ _ _ _ _ _ [(.ref r)]
  exact g_retR X3 hx hret hlk rfl rfl rfl (hb hby d_jdk_38_m_20_14) (by decide) (by decide) (by rw [eh3]; exact ⟨rfl, N3, rfl⟩)
def Q_rqini (Z : State) (a : Addr) (x : Addr) (h0 : Heap) (n0 : Nat) (v : Option Value) (h : Heap) (L : List Loc) : Prop := v = none ∧ Fr n0 L ∧ Keep h0 h [a] ∧ Exa Z h a "com/example/covering/covering/server/Request" ∧ Fld Z h a "com/example/covering/covering/server/Request" "words" "Ljava/util/List;" (.ref x)
theorem ef_rqini (m : MethodId) (x0 : Addr) (x1 : Addr) : entryFrame m #[(.ref x0), (.ref x1)] 2 = mkF m 0 #[.val (.ref x0), .val (.ref x1)] [] := by first | (simp [entryFrame, mkF, argsToLocals, Value.category]; done) | rfl
set_option maxRecDepth 65536 in
set_option maxHeartbeats 40000000 in
theorem rm_rqini (l : Launch) (Z : State) (a0 : Array Value) (hw : ∀ d ∈ tables_1, d.before a0 Z = true) (a : Addr) (x : Addr) (h0 : Heap) (n0 : Nat) (Z0 : n0 ≤ h0.size) (F_words_a : Fld Z h0 a "com/example/covering/covering/server/Request" "words" "Ljava/util/List;" .null) (E_a : Exa Z h0 a "com/example/covering/covering/server/Request") (g_a : n0 ≤ a) :
    Ct l Z (⟨"com/example/covering/covering/server/Request", "<init>", "(Ljava/util/List;)V"⟩ : MethodName) prog_14_method_1_code 2 none [] ({ frames := 1, cells := 0, slots := 0, locals := 12 } : Room) #[(.ref a), (.ref x)] h0 (Q_rqini Z a x h0 n0) := by
  refine own_body (plainFor_of_name pn_5) (fun m => ef_rqini m a x) ?_
  intro p e s m below meth c T0 hx hby hml hZ hown hnm hret hlk X0 e0
  have N0 := Fr.nil n0
  refine g_aloadN X0 hx (hb hby d_prog_14_m_1_0) rfl rfl rfl ?_
  refine g_initO X0 hx hZ hown (hw _ (List.mem_of_getElem? (i := 65) rfl)) (hw _ (List.mem_of_getElem? (i := 21) rfl)) (hw _ (List.mem_of_getElem? (i := 22) rfl)) e0 (by rw [hml]; rfl) (hb hby d_prog_14_m_1_1) rfl (by decide) (W := 0) (Nat.le_of_eq rfl) (by decide) fun T1 X1 e1 => ?_
  refine g_aloadN X1 hx (hb hby d_prog_14_m_1_4) rfl rfl rfl ?_
  refine g_aloadN X1 hx (hb hby d_prog_14_m_1_5) rfl rfl rfl ?_
  refine g_putF X1 hx hZ hown (host := "") (Or.inl (hw _ (List.mem_of_getElem? (i := 66) rfl))) Via.refl e1 F_words_a E_a (Or.inr ⟨(hw _ (List.mem_of_getElem? (i := 67) rfl)), rfl, hnm⟩) (hw _ (List.mem_of_getElem? (i := 60) rfl)) (ty := (.object "java/util/List")) (by decide) rfl rfl (hb hby d_prog_14_m_1_6) rfl fun T2 h2 X2 e2 W2 F2 => ?_
  have kk2 : Keep h0 h2 [a] := (Keep.refl h0 [a]).wr W2 (Or.inl (by simp))
  have N2 := Fr.snoc X2 N0 g_a
  have Z2 : n0 ≤ h2.size := by rw [W2.size]; exact Z0
  have f3 : Exa Z h2 a "com/example/covering/covering/server/Request" := (E_a.wr W2)
  exact g_ret X2 hx hret hlk (hb hby d_prog_14_m_1_9) (by decide) (by decide) (by rw [e2]; exact ⟨rfl, N2, kk2, f3, F2⟩)
def Q_word (Z : State) (q : Addr) (a : Addr) (b : Addr) (kb : ClassId) (n : Int32) (vs : List Value) (i : Int32) (r : Addr) (h0 : Heap) (n0 : Nat) (v : Option Value) (h : Heap) (L : List Loc) : Prop := v = some (.ref r) ∧ Fr n0 L ∧ h = h0
theorem ef_word (m : MethodId) (x0 : Addr) (x1 : Int32) : entryFrame m #[(.ref x0), (.int x1)] 2 = mkF m 0 #[.val (.ref x0), .val (.int x1)] [] := by first | (simp [entryFrame, mkF, argsToLocals, Value.category]; done) | rfl
set_option maxRecDepth 65536 in
set_option maxHeartbeats 40000000 in
theorem rm_word (l : Launch) (Z : State) (a0 : Array Value) (hw : ∀ d ∈ tables_1, d.before a0 Z = true) (q : Addr) (a : Addr) (b : Addr) (kb : ClassId) (n : Int32) (vs : List Value) (i : Int32) (r : Addr) (h0 : Heap) (n0 : Nat) (Z0 : n0 ≤ h0.size) (F_words_q : Fld Z h0 q "com/example/covering/covering/server/Request" "words" "Ljava/util/List;" (.ref a)) (F_size_a : Fld Z h0 a "java/util/ArrayList" "size" "I" (.int n)) (F_elementData_a : Fld Z h0 a "java/util/ArrayList" "elementData" "[Ljava/lang/Object;" (.ref b)) (V_b : Arv Z h0 b kb (.object "java/lang/Object") (10 : Int32) vs .null) (E_a : Exa Z h0 a "java/util/ArrayList") (hi0 : ¬ i < (0 : Int32)) (hi1 : i < n) (hi2 : i < (10 : Int32)) (hvr : vs.getD i.toNatClampNeg .null = .ref r) (I_r_9 : Ins Z h0 r "[B" true) :
    Ct l Z (⟨"com/example/covering/covering/server/Request", "word", "(I)[B"⟩ : MethodName) prog_14_method_4_code 2 (some (.array .byte)) [] ({ frames := 3, cells := 0, slots := 0, locals := 40 } : Room) #[(.ref q), (.int i)] h0 (Q_word Z q a b kb n vs i r h0 n0) := by
  refine own_body (plainFor_of_name pn_5) (fun m => ef_word m q i) ?_
  intro p e s m below meth c T0 hx hby hml hZ hown hnm hret hlk X0 e0
  have N0 := Fr.nil n0
  refine g_aloadN X0 hx (hb hby d_prog_14_m_4_0) rfl rfl rfl ?_
  refine g_getF X0 hx hZ hown (host := "") (Or.inl (hw _ (List.mem_of_getElem? (i := 66) rfl))) Via.refl e0 F_words_q (hb hby d_prog_14_m_4_1) rfl fun T1 X1 e1 => ?_
  refine g_iloadN X1 hx (hb hby d_prog_14_m_4_4) rfl rfl ?_
  refine g_interface X1 hx hZ hown (hw _ (List.mem_of_getElem? (i := 73) rfl)) (hw _ (List.mem_of_getElem? (i := 74) rfl)) (hw _ (List.mem_of_getElem? (i := 75) rfl)) (hw _ (List.mem_of_getElem? (i := 76) rfl)) (hw _ (List.mem_of_getElem? (i := 77) rfl)) (hw _ (List.mem_of_getElem? (i := 78) rfl)) (hw _ (List.mem_of_getElem? (i := 79) rfl)) (hw _ (List.mem_of_getElem? (i := 80) rfl)) (hw _ (List.mem_of_getElem? (i := 4) rfl)) (hw _ (List.mem_of_getElem? (i := 81) rfl)) (by decide) (a := a) E_a (rm_alget l Z a0 hw a b kb n vs i r h0 n0 Z0 F_size_a F_elementData_a V_b E_a hi0 hi1 hi2 hvr) (by rw [hml]; rfl) e1 [(.int i)] rfl rfl (W := 0) (Nat.le_of_eq rfl) (by decide) (by decide) (by decide) (by decide) (lenOf pd_6 rfl) (hb hby d_prog_14_m_4_5) rfl fun v2 T2 L2 X2 hQ2 => ?_
  obtain ⟨rfl, Nq2, eh2⟩ := hQ2
  have N2 := Fr.app N0 Nq2
  show Ga _ _ _ _ _ _ _ _ _ _ _ [(.ref r)]
  refine g_cast X2 hx hZ hown (hw _ (List.mem_of_getElem? (i := 95) rfl)) eh2 I_r_9 (hb hby d_prog_14_m_4_10) rfl fun T3 X3 e3 => ?_
  exact g_retR X3 hx hret hlk rfl rfl rfl (hb hby d_prog_14_m_4_13) (by decide) (by decide) (by rw [e3]; exact ⟨rfl, N2, rfl⟩)
def Q_law (Z : State) (p0 : Int32) (p1 : Int32) (p2 : Int32) (p3 : Int32) (d0 : Addr) (kd : ClassId) (h0 : Heap) (n0 : Nat) (v : Option Value) (h : Heap) (L : List Loc) : Prop := v = some (.int 1) ∧ Fr n0 L
theorem ef_law (m : MethodId) (x0 : Int32) (x1 : Int32) (x2 : Int32) (x3 : Int32) : entryFrame m #[(.int x0), (.int x1), (.int x2), (.int x3)] maxLocals = mkF m 0 #[.val (.int x0), .val (.int x1), .val (.int x2), .val (.int x3), .unset, .unset, .unset, .unset, .unset, .unset, .unset, .unset] [] := by first | (simp [entryFrame, mkF, argsToLocals, Value.category, maxLocals]; done) | rfl
set_option maxRecDepth 65536 in
set_option maxHeartbeats 40000000 in
theorem rm_law (l : Launch) (Z : State) (a0 : Array Value) (hw : ∀ d ∈ tables_1, d.before a0 Z = true) (ws : List Jvm.Cond) (p0 : Int32) (p1 : Int32) (p2 : Int32) (p3 : Int32) (d0 : Addr) (kd : ClassId) (h0 : Heap) (n0 : Nat) (Z0 : n0 ≤ h0.size) (old0 : Old Z n0 h0) (S0_DEFAULTCAPACITY_EMPTY_ELEMENTDATA : Sta Z Z.heap "java/util/ArrayList" "DEFAULTCAPACITY_EMPTY_ELEMENTDATA" "[Ljava/lang/Object;" (.ref d0)) (V0_d0 : Arv Z Z.heap d0 kd (.object "java/lang/Object") (0 : Int32) [] .null) :
    Ct l Z x code maxLocals ret ws room_1 #[(.int p0), (.int p1), (.int p2), (.int p3)] h0 (Q_law Z p0 p1 p2 p3 d0 kd h0 n0) := by
  refine own_body (plainFor_of_name pn_6) (fun m => ef_law m p0 p1 p2 p3) ?_
  intro p e s m below meth c T0 hx hby hml hZ hown hnm hret hlk X0 e0
  have N0 := Fr.nil n0
  refine g_iconst X0 hx (r := (1 : Int32)) (hb hby at_0) rfl rfl ?_
  refine g_newarray X0 hx hZ (aty := .byte) (hw _ (List.mem_of_getElem? (i := 0) rfl)) e0 (by decide) 1 (by decide) (by decide) (by decide) (by decide) (ad := "[B") (by decide) (hb hby at_1) rfl fun T1 h1 b1 ka1 X1 e1 q1 E1 A1 V1 => ?_
  have g_b1 : n0 ≤ b1 := Nat.le_trans Z0 (Nat.le_of_eq q1.symm)
  have Z1 : n0 ≤ h1.size := Nat.le_trans Z0 E1.1
  have Vn1 : Arv Z h1 b1 ka1 .byte (1 : Int32) [(.int (0 : Int32))] (.int (0 : Int32)) := V1
  refine g_dup X1 hx (hb hby at_3) rfl rfl ?_
  refine g_iconst X1 hx (r := (0 : Int32)) (hb hby at_4) rfl rfl ?_
  refine g_iloadN X1 hx (hb hby at_5) rfl rfl ?_
  refine g_i2b X1 hx (hb hby at_6) rfl rfl ?_
  refine g_bastore X1 hx hZ e1 Vn1 ⟨by decide, by decide⟩ (Nat.le_of_ble_eq_true rfl) (hb hby at_7) rfl fun T2 h2 X2 e2 W2 V2 => ?_
  rw [own_nar, own_bb] at V2
  have Vn2 : Arv Z h2 b1 ka1 .byte (1 : Int32) [(.int (p0.toInt8.toInt32))] (.int (0 : Int32)) := V2
  have N2 := Fr.snoc X2 N0 g_b1
  have Z2 : n0 ≤ h2.size := by rw [W2.size]; exact Z1
  refine g_astore X2 hx (Ls' := #[.val (.int p0), .val (.int p1), .val (.int p2), .val (.int p3), .val (.ref b1), .unset, .unset, .unset, .unset, .unset, .unset, .unset]) (hb hby at_8) rfl rfl rfl ?_
  refine g_iconst X2 hx (r := (2 : Int32)) (hb hby at_10) rfl rfl ?_
  refine g_newarray X2 hx hZ (aty := .byte) (hw _ (List.mem_of_getElem? (i := 0) rfl)) e2 (by decide) 2 (by decide) (by decide) (by decide) (by decide) (ad := "[B") (by decide) (hb hby at_11) rfl fun T3 h3 b3 ka3 X3 e3 q3 E3 A3 V3 => ?_
  have ne_b1_b3 : b1 ≠ b3 := own_ne Vn2.lt q3
  have g_b3 : n0 ≤ b3 := Nat.le_trans Z2 (Nat.le_of_eq q3.symm)
  have Z3 : n0 ≤ h3.size := Nat.le_trans Z2 E3.1
  have Vn3 : Arv Z h3 b3 ka3 .byte (2 : Int32) [(.int (0 : Int32)), (.int (0 : Int32))] (.int (0 : Int32)) := V3
  refine g_dup X3 hx (hb hby at_13) rfl rfl ?_
  refine g_iconst X3 hx (r := (0 : Int32)) (hb hby at_14) rfl rfl ?_
  refine g_iloadN X3 hx (hb hby at_15) rfl rfl ?_
  refine g_i2b X3 hx (hb hby at_16) rfl rfl ?_
  refine g_bastore X3 hx hZ e3 Vn3 ⟨by decide, by decide⟩ (Nat.le_of_ble_eq_true rfl) (hb hby at_17) rfl fun T4 h4 X4 e4 W4 V4 => ?_
  rw [own_nar, own_bb] at V4
  have Vn4 : Arv Z h4 b3 ka3 .byte (2 : Int32) [(.int (p1.toInt8.toInt32)), (.int (0 : Int32))] (.int (0 : Int32)) := V4
  have N4 := Fr.snoc X4 N2 g_b3
  have Z4 : n0 ≤ h4.size := by rw [W4.size]; exact Z3
  refine g_dup X4 hx (hb hby at_18) rfl rfl ?_
  refine g_iconst X4 hx (r := (1 : Int32)) (hb hby at_19) rfl rfl ?_
  refine g_iloadN X4 hx (hb hby at_20) rfl rfl ?_
  refine g_bipush X4 hx (r := (8 : Int32)) (hb hby at_21) rfl rfl ?_
  refine g_ishr X4 hx (hb hby at_23) rfl rfl ?_
  refine g_i2b X4 hx (hb hby at_24) rfl rfl ?_
  refine g_bastore X4 hx hZ e4 Vn4 ⟨by decide, by decide⟩ (Nat.le_of_ble_eq_true rfl) (hb hby at_25) rfl fun T5 h5 X5 e5 W5 V5 => ?_
  rw [own_nar, own_bb] at V5
  have Vn5 : Arv Z h5 b3 ka3 .byte (2 : Int32) [(.int (p1.toInt8.toInt32)), (.int ((p1 >>> ((8 : Int32) &&& 31)).toInt8.toInt32))] (.int (0 : Int32)) := V5
  have N5 := Fr.snoc X5 N4 g_b3
  have Z5 : n0 ≤ h5.size := by rw [W5.size]; exact Z4
  refine g_astore X5 hx (Ls' := #[.val (.int p0), .val (.int p1), .val (.int p2), .val (.int p3), .val (.ref b1), .val (.ref b3), .unset, .unset, .unset, .unset, .unset, .unset]) (hb hby at_26) rfl rfl rfl ?_
  refine g_iconst X5 hx (r := (3 : Int32)) (hb hby at_28) rfl rfl ?_
  have f7 : Arv Z h5 b1 ka1 .byte (1 : Int32) [(.int (p0.toInt8.toInt32))] (.int (0 : Int32)) := (((Vn2.ext E3).other W4 ne_b1_b3).other W5 ne_b1_b3)
  refine g_newarray X5 hx hZ (aty := .byte) (hw _ (List.mem_of_getElem? (i := 0) rfl)) e5 (by decide) 3 (by decide) (by decide) (by decide) (by decide) (ad := "[B") (by decide) (hb hby at_29) rfl fun T6 h6 b6 ka6 X6 e6 q6 E6 A6 V6 => ?_
  have ne_b1_b6 : b1 ≠ b6 := own_ne f7.lt q6
  have ne_b3_b6 : b3 ≠ b6 := own_ne Vn5.lt q6
  have g_b6 : n0 ≤ b6 := Nat.le_trans Z5 (Nat.le_of_eq q6.symm)
  have Z6 : n0 ≤ h6.size := Nat.le_trans Z5 E6.1
  have Vn6 : Arv Z h6 b6 ka6 .byte (3 : Int32) [(.int (0 : Int32)), (.int (0 : Int32)), (.int (0 : Int32))] (.int (0 : Int32)) := V6
  refine g_dup X6 hx (hb hby at_31) rfl rfl ?_
  refine g_iconst X6 hx (r := (0 : Int32)) (hb hby at_32) rfl rfl ?_
  refine g_iloadN X6 hx (hb hby at_33) rfl rfl ?_
  refine g_i2b X6 hx (hb hby at_34) rfl rfl ?_
  refine g_bastore X6 hx hZ e6 Vn6 ⟨by decide, by decide⟩ (Nat.le_of_ble_eq_true rfl) (hb hby at_35) rfl fun T8 h8 X8 e8 W8 V8 => ?_
  rw [own_nar, own_bb] at V8
  have Vn8 : Arv Z h8 b6 ka6 .byte (3 : Int32) [(.int (p2.toInt8.toInt32)), (.int (0 : Int32)), (.int (0 : Int32))] (.int (0 : Int32)) := V8
  have N8 := Fr.snoc X8 N5 g_b6
  have Z8 : n0 ≤ h8.size := by rw [W8.size]; exact Z6
  refine g_dup X8 hx (hb hby at_36) rfl rfl ?_
  refine g_iconst X8 hx (r := (1 : Int32)) (hb hby at_37) rfl rfl ?_
  refine g_iloadN X8 hx (hb hby at_38) rfl rfl ?_
  refine g_bipush X8 hx (r := (8 : Int32)) (hb hby at_39) rfl rfl ?_
  refine g_ishr X8 hx (hb hby at_41) rfl rfl ?_
  refine g_i2b X8 hx (hb hby at_42) rfl rfl ?_
  refine g_bastore X8 hx hZ e8 Vn8 ⟨by decide, by decide⟩ (Nat.le_of_ble_eq_true rfl) (hb hby at_43) rfl fun T9 h9 X9 e9 W9 V9 => ?_
  rw [own_nar, own_bb] at V9
  have Vn9 : Arv Z h9 b6 ka6 .byte (3 : Int32) [(.int (p2.toInt8.toInt32)), (.int ((p2 >>> ((8 : Int32) &&& 31)).toInt8.toInt32)), (.int (0 : Int32))] (.int (0 : Int32)) := V9
  have N9 := Fr.snoc X9 N8 g_b6
  have Z9 : n0 ≤ h9.size := by rw [W9.size]; exact Z8
  refine g_dup X9 hx (hb hby at_44) rfl rfl ?_
  refine g_iconst X9 hx (r := (2 : Int32)) (hb hby at_45) rfl rfl ?_
  refine g_iloadN X9 hx (hb hby at_46) rfl rfl ?_
  refine g_bipush X9 hx (r := (16 : Int32)) (hb hby at_47) rfl rfl ?_
  refine g_ishr X9 hx (hb hby at_49) rfl rfl ?_
  refine g_i2b X9 hx (hb hby at_50) rfl rfl ?_
  refine g_bastore X9 hx hZ e9 Vn9 ⟨by decide, by decide⟩ (Nat.le_of_ble_eq_true rfl) (hb hby at_51) rfl fun T10 h10 X10 e10 W10 V10 => ?_
  rw [own_nar, own_bb] at V10
  have Vn10 : Arv Z h10 b6 ka6 .byte (3 : Int32) [(.int (p2.toInt8.toInt32)), (.int ((p2 >>> ((8 : Int32) &&& 31)).toInt8.toInt32)), (.int ((p2 >>> ((16 : Int32) &&& 31)).toInt8.toInt32))] (.int (0 : Int32)) := V10
  have N10 := Fr.snoc X10 N9 g_b6
  have Z10 : n0 ≤ h10.size := by rw [W10.size]; exact Z9
  refine g_astore X10 hx (Ls' := #[.val (.int p0), .val (.int p1), .val (.int p2), .val (.int p3), .val (.ref b1), .val (.ref b3), .val (.ref b6), .unset, .unset, .unset, .unset, .unset]) (hb hby at_52) rfl rfl rfl ?_
  refine g_iconst X10 hx (r := (1 : Int32)) (hb hby at_54) rfl rfl ?_
  refine g_iloadN X10 hx (hb hby at_55) rfl rfl ?_
  refine g_ldcI X10 hx hZ hown (hw _ (List.mem_of_getElem? (i := 1) rfl)) (hb hby at_56) rfl ?_
  refine g_iand X10 hx (hb hby at_58) rfl rfl ?_
  refine g_iconst X10 hx (r := (3 : Int32)) (hb hby at_59) rfl rfl ?_
  obtain ⟨v60, hv60⟩ : ∃ r, ((p3 &&& (2147483647 : Int32)) % (3 : Int32)) = r := ⟨_, rfl⟩
  refine g_irem X10 hx (hb hby at_60) rfl (by decide) hv60 ?_
  have hcs_v60 : v60 = (0 : Int32) ∨ v60 = (1 : Int32) ∨ v60 = (2 : Int32) := own_rem3 (own_mx rfl) hv60
  rcases hcs_v60 with rfl | rfl | rfl
  · skip
    refine g_iadd X10 hx (r := (1 : Int32)) (hb hby at_61) rfl rfl ?_
    refine g_istore X10 hx (Ls' := #[.val (.int p0), .val (.int p1), .val (.int p2), .val (.int p3), .val (.ref b1), .val (.ref b3), .val (.ref b6), .val (.int (1 : Int32)), .unset, .unset, .unset, .unset]) (hb hby at_62) rfl rfl ?_
    refine g_iloadN X10 hx (hb hby at_64) rfl rfl ?_
    refine g_bipush X10 hx (r := (8 : Int32)) (hb hby at_65) rfl rfl ?_
    refine g_iushr X10 hx (hb hby at_67) rfl rfl ?_
    refine g_ldcI X10 hx hZ hown (hw _ (List.mem_of_getElem? (i := 1) rfl)) (hb hby at_68) rfl ?_
    refine g_iand X10 hx (hb hby at_70) rfl rfl ?_
    refine g_iload X10 hx (hb hby at_71) rfl rfl ?_
    obtain ⟨v73, hv73⟩ : ∃ r, ((((p3.toUInt32 >>> ((8 : Int32) &&& 31).toUInt32).toInt32) &&& (2147483647 : Int32)) % (1 : Int32)) = r := ⟨_, rfl⟩
    refine g_irem X10 hx (hb hby at_73) rfl (by decide) hv73 ?_
    refine g_istore X10 hx (Ls' := #[.val (.int p0), .val (.int p1), .val (.int p2), .val (.int p3), .val (.ref b1), .val (.ref b3), .val (.ref b6), .val (.int (1 : Int32)), .val (.int v73), .unset, .unset, .unset]) (hb hby at_74) rfl rfl ?_
    have hcs_v73 : v73 = (0 : Int32) := own_rem1 (own_mx rfl) hv73
    obtain rfl := hcs_v73
    have f12 : Arv Z h10 b1 ka1 .byte (1 : Int32) [(.int (p0.toInt8.toInt32))] (.int (0 : Int32)) := ((((f7.ext E6).other W8 ne_b1_b6).other W9 ne_b1_b6).other W10 ne_b1_b6)
    have f13 : Arv Z h10 b3 ka3 .byte (2 : Int32) [(.int (p1.toInt8.toInt32)), (.int ((p1 >>> ((8 : Int32) &&& 31)).toInt8.toInt32))] (.int (0 : Int32)) := ((((Vn5.ext E6).other W8 ne_b3_b6).other W9 ne_b3_b6).other W10 ne_b3_b6)
    refine g_new X10 hx hZ hown (hw _ (List.mem_of_getElem? (i := 2) rfl)) (hw _ (List.mem_of_getElem? (i := 3) rfl)) (hw _ (List.mem_of_getElem? (i := 4) rfl)) e10 (hb hby at_76) rfl (by decide) (by decide) fun T11 h11 b11 X11 e11 q11 E11 A11 D11 => ?_
    have ne_b1_b11 : b1 ≠ b11 := own_ne f12.lt q11
    have ne_b3_b11 : b3 ≠ b11 := own_ne f13.lt q11
    have ne_b6_b11 : b6 ≠ b11 := own_ne Vn10.lt q11
    have g_b11 : n0 ≤ b11 := Nat.le_trans Z10 (Nat.le_of_eq q11.symm)
    have Z11 : n0 ≤ h11.size := Nat.le_trans Z10 E11.1
    have F11_modCount : Fld Z h11 b11 "java/util/AbstractList" "modCount" "I" (.int (0 : Int32)) := D11 (Or.inl (hw _ (List.mem_of_getElem? (i := 24) rfl))) (ty := .int) (by decide)
    have F11_elementData : Fld Z h11 b11 "java/util/ArrayList" "elementData" "[Ljava/lang/Object;" .null := D11 (Or.inl (hw _ (List.mem_of_getElem? (i := 27) rfl))) (ty := (.array (.object "java/lang/Object"))) (by decide)
    have F11_size : Fld Z h11 b11 "java/util/ArrayList" "size" "I" (.int (0 : Int32)) := D11 (Or.inl (hw _ (List.mem_of_getElem? (i := 36) rfl))) (ty := .int) (by decide)
    refine g_dup X11 hx (hb hby at_79) rfl rfl ?_
    have f15 : Old Z n0 h11 := ((((((((((old0.ext E1).wr W2 g_b1).ext E3).wr W4 g_b3).wr W5 g_b3).ext E6).wr W8 g_b6).wr W9 g_b6).wr W10 g_b6).ext E11)
    refine g_special X11 hx hZ hown rfl (hw _ (List.mem_of_getElem? (i := 5) rfl)) (hw _ (List.mem_of_getElem? (i := 6) rfl)) (hw _ (List.mem_of_getElem? (i := 4) rfl)) (hw _ (List.mem_of_getElem? (i := 7) rfl)) (by decide) (a := b11) (rm_alini l Z a0 hw b11 d0 h11 n0 Z11 F11_elementData F11_size F11_modCount A11 g_b11 f15 S0_DEFAULTCAPACITY_EMPTY_ELEMENTDATA) (by rw [hml]; rfl) e11 [] rfl rfl (W := 1) (Nat.le_of_eq rfl) (by decide) (by decide) (by decide) (by decide) (lenOf pd_0 rfl) (hb hby at_80) rfl fun v14 T14 L14 X14 hQ14 => ?_
    obtain ⟨rfl, Nq14, kc14, p14_0, p14_1, p14_2, p14_3⟩ := hQ14
    have N14 := Fr.app N10 Nq14
    have Z14 : n0 ≤ T14.heap.size := Nat.le_trans Z11 kc14.1
    show Ga _ _ _ _ _ _ _ _ _ _ _ [(.ref b11)]
    refine g_astore X14 hx (Ls' := #[.val (.int p0), .val (.int p1), .val (.int p2), .val (.int p3), .val (.ref b1), .val (.ref b3), .val (.ref b6), .val (.int (1 : Int32)), .val (.int (0 : Int32)), .val (.ref b11), .unset, .unset]) (hb hby at_83) rfl rfl rfl ?_
    refine g_aload X14 hx (hb hby at_85) rfl rfl rfl ?_
    refine g_aload X14 hx (hb hby at_87) rfl rfl rfl ?_
    have f17 : Old Z n0 T14.heap := (f15.keep kc14 (allS g_b11 all0))
    have f18 : Exa Z T14.heap b1 "[B" := ((((((((((A1.wr W2).ext E3).wr W4).wr W5).ext E6).wr W8).wr W9).wr W10).ext E11).keep kc14)
    refine g_virtual X14 hx hZ hown (hw _ (List.mem_of_getElem? (i := 28) rfl)) (hw _ (List.mem_of_getElem? (i := 29) rfl)) (notFace_of_selects (args := #[]) (mvT hZ (hw _ (List.mem_of_getElem? (i := 31) rfl)))) (hw _ (List.mem_of_getElem? (i := 31) rfl)) (hw _ (List.mem_of_getElem? (i := 30) rfl)) (hw _ (List.mem_of_getElem? (i := 4) rfl)) (hw _ (List.mem_of_getElem? (i := 32) rfl)) (by decide) (a := b11) p14_0 (rm_addf l Z a0 hw b11 (0 : Int32) d0 kd b1 T14.heap n0 Z14 p14_1 p14_2 p14_3 p14_0 g_b11 f17 S0_DEFAULTCAPACITY_EMPTY_ELEMENTDATA V0_d0 (Ins.of_exa f18 (hw _ (List.mem_of_getElem? (i := 58) rfl)))) (by rw [hml]; rfl) rfl [(.ref b1)] rfl rfl (W := 0) (Nat.le_of_eq rfl) (by decide) (by decide) (by decide) (by decide) (lenOf pd_7 rfl) (hb hby at_89) rfl fun v16 T16 L16 X16 hQ16 => ?_
    obtain ⟨b_16, kb_16, rfl, Nq16, kc16, p16_0, p16_1, p16_2, p16_3, p16_4, p16_5, p16_6⟩ := hQ16
    have N16 := Fr.app N14 Nq16
    have f19 : Arv Z T14.heap b1 ka1 .byte (1 : Int32) [(.int (p0.toInt8.toInt32))] (.int (0 : Int32)) := ((f12.ext E11).keep kc14 (ninS ne_b1_b11 nin0))
    have f20 : Arv Z T14.heap b3 ka3 .byte (2 : Int32) [(.int (p1.toInt8.toInt32)), (.int ((p1 >>> ((8 : Int32) &&& 31)).toInt8.toInt32))] (.int (0 : Int32)) := ((f13.ext E11).keep kc14 (ninS ne_b3_b11 nin0))
    have f21 : Arv Z T14.heap b6 ka6 .byte (3 : Int32) [(.int (p2.toInt8.toInt32)), (.int ((p2 >>> ((8 : Int32) &&& 31)).toInt8.toInt32)), (.int ((p2 >>> ((16 : Int32) &&& 31)).toInt8.toInt32))] (.int (0 : Int32)) := ((Vn10.ext E11).keep kc14 (ninS ne_b6_b11 nin0))
    have ne_b1_b_16 : b1 ≠ b_16 := own_neK f19.lt p16_0
    have ne_b11_b_16 : b11 ≠ b_16 := own_neK p14_0.lt p16_0
    have ne_b3_b_16 : b3 ≠ b_16 := own_neK f20.lt p16_0
    have ne_b6_b_16 : b6 ≠ b_16 := own_neK f21.lt p16_0
    have g_b_16 : n0 ≤ b_16 := Nat.le_trans Z14 p16_0
    have Z16 : n0 ≤ T16.heap.size := Nat.le_trans Z14 kc16.1
    have pv16_4 : Fld Z T16.heap b11 "java/util/AbstractList" "modCount" "I" (.int (1 : Int32)) := p16_4
    have pv16_6 : Arv Z T16.heap b_16 kb_16 (.object "java/lang/Object") (10 : Int32) [(.ref b1), .null, .null, .null, .null, .null, .null, .null, .null, .null] .null := p16_6
    show Ga _ _ _ _ _ _ _ _ _ _ _ [(.int (1 : Int32))]
    refine g_pop X16 hx (hb hby at_92) rfl rfl ?_
    refine g_iload X16 hx (hb hby at_93) rfl rfl ?_
    refine g_iconst X16 hx (r := (1 : Int32)) (hb hby at_95) rfl rfl ?_
    refine g_icmpY X16 hx (q := 107) (hb hby at_96) (XT.ii_le_t (by decide : ¬ (1 : Int32) < (1 : Int32))) (by decide) (by decide) ?_
    refine g_iload X16 hx (hb hby at_107) rfl rfl ?_
    refine g_iconst X16 hx (r := (2 : Int32)) (hb hby at_109) rfl rfl ?_
    refine g_icmpY X16 hx (q := 121) (hb hby at_110) (XT.ii_le_t (by decide : ¬ (2 : Int32) < (1 : Int32))) (by decide) (by decide) ?_
    have f23 : Arv Z T16.heap b1 ka1 .byte (1 : Int32) [(.int (p0.toInt8.toInt32))] (.int (0 : Int32)) := (f19.keep kc16 (ninS ne_b1_b11 nin0))
    have f24 : Arv Z T16.heap b3 ka3 .byte (2 : Int32) [(.int (p1.toInt8.toInt32)), (.int ((p1 >>> ((8 : Int32) &&& 31)).toInt8.toInt32))] (.int (0 : Int32)) := (f20.keep kc16 (ninS ne_b3_b11 nin0))
    have f25 : Arv Z T16.heap b6 ka6 .byte (3 : Int32) [(.int (p2.toInt8.toInt32)), (.int ((p2 >>> ((8 : Int32) &&& 31)).toInt8.toInt32)), (.int ((p2 >>> ((16 : Int32) &&& 31)).toInt8.toInt32))] (.int (0 : Int32)) := (f21.keep kc16 (ninS ne_b6_b11 nin0))
    refine g_new X16 hx hZ hown (hw _ (List.mem_of_getElem? (i := 59) rfl)) (hw _ (List.mem_of_getElem? (i := 60) rfl)) (hw _ (List.mem_of_getElem? (i := 61) rfl)) rfl (hb hby at_121) rfl (by decide) (by decide) fun T22 h22 b22 X22 e22 q22 E22 A22 D22 => ?_
    have ne_b1_b22 : b1 ≠ b22 := own_ne f23.lt q22
    have ne_b11_b22 : b11 ≠ b22 := own_ne p16_1.lt q22
    have ne_b3_b22 : b3 ≠ b22 := own_ne f24.lt q22
    have ne_b6_b22 : b6 ≠ b22 := own_ne f25.lt q22
    have ne_b_16_b22 : b_16 ≠ b22 := own_ne pv16_6.lt q22
    have g_b22 : n0 ≤ b22 := Nat.le_trans Z16 (Nat.le_of_eq q22.symm)
    have Z22 : n0 ≤ h22.size := Nat.le_trans Z16 E22.1
    have F22_words : Fld Z h22 b22 "com/example/covering/covering/server/Request" "words" "Ljava/util/List;" .null := D22 (Or.inr (hw _ (List.mem_of_getElem? (i := 67) rfl))) (ty := (.object "java/util/List")) (by decide)
    refine g_dup X22 hx (hb hby at_124) rfl rfl ?_
    refine g_aload X22 hx (hb hby at_125) rfl rfl rfl ?_
    refine g_special X22 hx hZ hown rfl (hw _ (List.mem_of_getElem? (i := 62) rfl)) (hw _ (List.mem_of_getElem? (i := 63) rfl)) (hw _ (List.mem_of_getElem? (i := 61) rfl)) (hw _ (List.mem_of_getElem? (i := 64) rfl)) (by decide) (a := b22) (rm_rqini l Z a0 hw b22 b11 h22 n0 Z22 F22_words A22 g_b22) (by rw [hml]; rfl) e22 [(.ref b11)] rfl rfl (W := 1) (Nat.le_of_eq rfl) (by decide) (by decide) (by decide) (by decide) (lenOf pd_8 rfl) (hb hby at_127) rfl fun v26 T26 L26 X26 hQ26 => ?_
    obtain ⟨rfl, Nq26, kc26, p26_0, p26_1⟩ := hQ26
    have N26 := Fr.app N16 Nq26
    have Z26 : n0 ≤ T26.heap.size := Nat.le_trans Z22 kc26.1
    show Ga _ _ _ _ _ _ _ _ _ _ _ [(.ref b22)]
    refine g_astore X26 hx (Ls' := #[.val (.int p0), .val (.int p1), .val (.int p2), .val (.int p3), .val (.ref b1), .val (.ref b3), .val (.ref b6), .val (.int (1 : Int32)), .val (.int (0 : Int32)), .val (.ref b11), .val (.ref b22), .unset]) (hb hby at_130) rfl rfl rfl ?_
    refine g_aload X26 hx (hb hby at_132) rfl rfl rfl ?_
    refine g_iload X26 hx (hb hby at_134) rfl rfl ?_
    have f28 : Fld Z T26.heap b11 "java/util/ArrayList" "size" "I" (.int (1 : Int32)) := ((p16_3.ext E22).keep kc26 (ninS ne_b11_b22 nin0))
    have f29 : Fld Z T26.heap b11 "java/util/ArrayList" "elementData" "[Ljava/lang/Object;" (.ref b_16) := ((p16_2.ext E22).keep kc26 (ninS ne_b11_b22 nin0))
    have f30 : Arv Z T26.heap b_16 kb_16 (.object "java/lang/Object") (10 : Int32) [(.ref b1), .null, .null, .null, .null, .null, .null, .null, .null, .null] .null := ((pv16_6.ext E22).keep kc26 (ninS ne_b_16_b22 nin0))
    have f31 : Exa Z T26.heap b11 "java/util/ArrayList" := ((p16_1.ext E22).keep kc26)
    have f32 : Exa Z T26.heap b1 "[B" := (((f18.keep kc16).ext E22).keep kc26)
    refine g_virtual X26 hx hZ hown (hw _ (List.mem_of_getElem? (i := 68) rfl)) (hw _ (List.mem_of_getElem? (i := 69) rfl)) (notFace_of_selects (args := #[]) (mvT hZ (hw _ (List.mem_of_getElem? (i := 71) rfl)))) (hw _ (List.mem_of_getElem? (i := 71) rfl)) (hw _ (List.mem_of_getElem? (i := 70) rfl)) (hw _ (List.mem_of_getElem? (i := 61) rfl)) (hw _ (List.mem_of_getElem? (i := 72) rfl)) (by decide) (a := b22) p26_0 (rm_word l Z a0 hw b22 b11 b_16 kb_16 (1 : Int32) [(.ref b1), .null, .null, .null, .null, .null, .null, .null, .null, .null] (0 : Int32) b1 T26.heap n0 Z26 p26_1 f28 f29 f30 f31 (by first | decide | assumption | rfl | (intro _; rfl)) (by first | decide | assumption | rfl | (intro _; rfl)) (by first | decide | assumption | rfl | (intro _; rfl)) (by first | decide | assumption | rfl | (intro _; rfl)) (Ins.self f32)) (by rw [hml]; rfl) rfl [(.int (0 : Int32))] rfl rfl (W := 0) (Nat.le_of_eq rfl) (by decide) (by decide) (by decide) (by decide) (lenOf pd_9 rfl) (hb hby at_136) rfl fun v27 T27 L27 X27 hQ27 => ?_
    obtain ⟨rfl, Nq27, eh27⟩ := hQ27
    have N27 := Fr.app N26 Nq27
    show Ga _ _ _ _ _ _ _ _ _ _ _ [(.ref b1)]
    refine g_astore X27 hx (Ls' := #[.val (.int p0), .val (.int p1), .val (.int p2), .val (.int p3), .val (.ref b1), .val (.ref b3), .val (.ref b6), .val (.int (1 : Int32)), .val (.int (0 : Int32)), .val (.ref b11), .val (.ref b22), .val (.ref b1)]) (hb hby at_139) rfl rfl rfl ?_
    refine g_aload X27 hx (hb hby at_141) rfl rfl rfl ?_
    refine g_ifnonnullY X27 hx (q := 148) (hb hby at_143) (by decide) (by decide) ?_
    refine g_iload X27 hx (hb hby at_148) rfl rfl ?_
    refine g_ifN X27 hx (hb hby at_150) rfl (XT.i0_ne_f (by decide : (0 : Int32) = (0 : Int32))) ?_
    refine g_aload X27 hx (hb hby at_153) rfl rfl rfl ?_
    have f33 : Arv Z T26.heap b1 ka1 .byte (1 : Int32) [(.int (p0.toInt8.toInt32))] (.int (0 : Int32)) := ((f23.ext E22).keep kc26 (ninS ne_b1_b22 nin0))
    refine g_len X27 hx hZ eh27 f33 (hb hby at_155) rfl ?_
    refine g_iconst X27 hx (r := (1 : Int32)) (hb hby at_156) rfl rfl ?_
    refine g_icmpN X27 hx (hb hby at_157) rfl (XT.ii_ne_f (by decide : (1 : Int32) = (1 : Int32))) ?_
    refine g_aload X27 hx (hb hby at_160) rfl rfl rfl ?_
    refine g_iconst X27 hx (r := (0 : Int32)) (hb hby at_162) rfl rfl ?_
    refine g_baload X27 hx hZ eh27 f33 (v := (.int (p0.toInt8.toInt32))) ⟨by decide, by decide⟩ rfl (hb hby at_163) rfl ?_
    refine g_iloadN X27 hx (hb hby at_164) rfl rfl ?_
    refine g_i2b X27 hx (hb hby at_165) rfl rfl ?_
    refine g_icmpN X27 hx (hb hby at_166) rfl (XT.ii_ne_f rfl) ?_
    refine g_iconst X27 hx (r := (1 : Int32)) (hb hby at_169) rfl rfl ?_
    refine g_goto X27 hx (q := 174) (hb hby at_170) (by decide) (by decide) ?_
    exact g_retN X27 hx (t := .boolean) (r := (1 : Int32)) hret (by simp) hlk (hb hby at_174) rfl (by decide) (by decide) (by rw [eh27]; exact ⟨rfl, N27⟩)
  · skip
    refine g_iadd X10 hx (r := (2 : Int32)) (hb hby at_61) rfl rfl ?_
    refine g_istore X10 hx (Ls' := #[.val (.int p0), .val (.int p1), .val (.int p2), .val (.int p3), .val (.ref b1), .val (.ref b3), .val (.ref b6), .val (.int (2 : Int32)), .unset, .unset, .unset, .unset]) (hb hby at_62) rfl rfl ?_
    refine g_iloadN X10 hx (hb hby at_64) rfl rfl ?_
    refine g_bipush X10 hx (r := (8 : Int32)) (hb hby at_65) rfl rfl ?_
    refine g_iushr X10 hx (hb hby at_67) rfl rfl ?_
    refine g_ldcI X10 hx hZ hown (hw _ (List.mem_of_getElem? (i := 1) rfl)) (hb hby at_68) rfl ?_
    refine g_iand X10 hx (hb hby at_70) rfl rfl ?_
    refine g_iload X10 hx (hb hby at_71) rfl rfl ?_
    obtain ⟨v73, hv73⟩ : ∃ r, ((((p3.toUInt32 >>> ((8 : Int32) &&& 31).toUInt32).toInt32) &&& (2147483647 : Int32)) % (2 : Int32)) = r := ⟨_, rfl⟩
    refine g_irem X10 hx (hb hby at_73) rfl (by decide) hv73 ?_
    refine g_istore X10 hx (Ls' := #[.val (.int p0), .val (.int p1), .val (.int p2), .val (.int p3), .val (.ref b1), .val (.ref b3), .val (.ref b6), .val (.int (2 : Int32)), .val (.int v73), .unset, .unset, .unset]) (hb hby at_74) rfl rfl ?_
    have hcs_v73 : v73 = (0 : Int32) ∨ v73 = (1 : Int32) := own_rem2 (own_mx rfl) hv73
    rcases hcs_v73 with rfl | rfl
    · skip
      have f35 : Arv Z h10 b1 ka1 .byte (1 : Int32) [(.int (p0.toInt8.toInt32))] (.int (0 : Int32)) := ((((f7.ext E6).other W8 ne_b1_b6).other W9 ne_b1_b6).other W10 ne_b1_b6)
      have f36 : Arv Z h10 b3 ka3 .byte (2 : Int32) [(.int (p1.toInt8.toInt32)), (.int ((p1 >>> ((8 : Int32) &&& 31)).toInt8.toInt32))] (.int (0 : Int32)) := ((((Vn5.ext E6).other W8 ne_b3_b6).other W9 ne_b3_b6).other W10 ne_b3_b6)
      refine g_new X10 hx hZ hown (hw _ (List.mem_of_getElem? (i := 2) rfl)) (hw _ (List.mem_of_getElem? (i := 3) rfl)) (hw _ (List.mem_of_getElem? (i := 4) rfl)) e10 (hb hby at_76) rfl (by decide) (by decide) fun T34 h34 b34 X34 e34 q34 E34 A34 D34 => ?_
      have ne_b1_b34 : b1 ≠ b34 := own_ne f35.lt q34
      have ne_b3_b34 : b3 ≠ b34 := own_ne f36.lt q34
      have ne_b6_b34 : b6 ≠ b34 := own_ne Vn10.lt q34
      have g_b34 : n0 ≤ b34 := Nat.le_trans Z10 (Nat.le_of_eq q34.symm)
      have Z34 : n0 ≤ h34.size := Nat.le_trans Z10 E34.1
      have F34_modCount : Fld Z h34 b34 "java/util/AbstractList" "modCount" "I" (.int (0 : Int32)) := D34 (Or.inl (hw _ (List.mem_of_getElem? (i := 24) rfl))) (ty := .int) (by decide)
      have F34_elementData : Fld Z h34 b34 "java/util/ArrayList" "elementData" "[Ljava/lang/Object;" .null := D34 (Or.inl (hw _ (List.mem_of_getElem? (i := 27) rfl))) (ty := (.array (.object "java/lang/Object"))) (by decide)
      have F34_size : Fld Z h34 b34 "java/util/ArrayList" "size" "I" (.int (0 : Int32)) := D34 (Or.inl (hw _ (List.mem_of_getElem? (i := 36) rfl))) (ty := .int) (by decide)
      refine g_dup X34 hx (hb hby at_79) rfl rfl ?_
      have f38 : Old Z n0 h34 := ((((((((((old0.ext E1).wr W2 g_b1).ext E3).wr W4 g_b3).wr W5 g_b3).ext E6).wr W8 g_b6).wr W9 g_b6).wr W10 g_b6).ext E34)
      refine g_special X34 hx hZ hown rfl (hw _ (List.mem_of_getElem? (i := 5) rfl)) (hw _ (List.mem_of_getElem? (i := 6) rfl)) (hw _ (List.mem_of_getElem? (i := 4) rfl)) (hw _ (List.mem_of_getElem? (i := 7) rfl)) (by decide) (a := b34) (rm_alini l Z a0 hw b34 d0 h34 n0 Z34 F34_elementData F34_size F34_modCount A34 g_b34 f38 S0_DEFAULTCAPACITY_EMPTY_ELEMENTDATA) (by rw [hml]; rfl) e34 [] rfl rfl (W := 1) (Nat.le_of_eq rfl) (by decide) (by decide) (by decide) (by decide) (lenOf pd_0 rfl) (hb hby at_80) rfl fun v37 T37 L37 X37 hQ37 => ?_
      obtain ⟨rfl, Nq37, kc37, p37_0, p37_1, p37_2, p37_3⟩ := hQ37
      have N37 := Fr.app N10 Nq37
      have Z37 : n0 ≤ T37.heap.size := Nat.le_trans Z34 kc37.1
      show Ga _ _ _ _ _ _ _ _ _ _ _ [(.ref b34)]
      refine g_astore X37 hx (Ls' := #[.val (.int p0), .val (.int p1), .val (.int p2), .val (.int p3), .val (.ref b1), .val (.ref b3), .val (.ref b6), .val (.int (2 : Int32)), .val (.int (0 : Int32)), .val (.ref b34), .unset, .unset]) (hb hby at_83) rfl rfl rfl ?_
      refine g_aload X37 hx (hb hby at_85) rfl rfl rfl ?_
      refine g_aload X37 hx (hb hby at_87) rfl rfl rfl ?_
      have f40 : Old Z n0 T37.heap := (f38.keep kc37 (allS g_b34 all0))
      have f41 : Exa Z T37.heap b1 "[B" := ((((((((((A1.wr W2).ext E3).wr W4).wr W5).ext E6).wr W8).wr W9).wr W10).ext E34).keep kc37)
      refine g_virtual X37 hx hZ hown (hw _ (List.mem_of_getElem? (i := 28) rfl)) (hw _ (List.mem_of_getElem? (i := 29) rfl)) (notFace_of_selects (args := #[]) (mvT hZ (hw _ (List.mem_of_getElem? (i := 31) rfl)))) (hw _ (List.mem_of_getElem? (i := 31) rfl)) (hw _ (List.mem_of_getElem? (i := 30) rfl)) (hw _ (List.mem_of_getElem? (i := 4) rfl)) (hw _ (List.mem_of_getElem? (i := 32) rfl)) (by decide) (a := b34) p37_0 (rm_addf l Z a0 hw b34 (0 : Int32) d0 kd b1 T37.heap n0 Z37 p37_1 p37_2 p37_3 p37_0 g_b34 f40 S0_DEFAULTCAPACITY_EMPTY_ELEMENTDATA V0_d0 (Ins.of_exa f41 (hw _ (List.mem_of_getElem? (i := 58) rfl)))) (by rw [hml]; rfl) rfl [(.ref b1)] rfl rfl (W := 0) (Nat.le_of_eq rfl) (by decide) (by decide) (by decide) (by decide) (lenOf pd_7 rfl) (hb hby at_89) rfl fun v39 T39 L39 X39 hQ39 => ?_
      obtain ⟨b_39, kb_39, rfl, Nq39, kc39, p39_0, p39_1, p39_2, p39_3, p39_4, p39_5, p39_6⟩ := hQ39
      have N39 := Fr.app N37 Nq39
      have f42 : Arv Z T37.heap b1 ka1 .byte (1 : Int32) [(.int (p0.toInt8.toInt32))] (.int (0 : Int32)) := ((f35.ext E34).keep kc37 (ninS ne_b1_b34 nin0))
      have f43 : Arv Z T37.heap b3 ka3 .byte (2 : Int32) [(.int (p1.toInt8.toInt32)), (.int ((p1 >>> ((8 : Int32) &&& 31)).toInt8.toInt32))] (.int (0 : Int32)) := ((f36.ext E34).keep kc37 (ninS ne_b3_b34 nin0))
      have f44 : Arv Z T37.heap b6 ka6 .byte (3 : Int32) [(.int (p2.toInt8.toInt32)), (.int ((p2 >>> ((8 : Int32) &&& 31)).toInt8.toInt32)), (.int ((p2 >>> ((16 : Int32) &&& 31)).toInt8.toInt32))] (.int (0 : Int32)) := ((Vn10.ext E34).keep kc37 (ninS ne_b6_b34 nin0))
      have ne_b1_b_39 : b1 ≠ b_39 := own_neK f42.lt p39_0
      have ne_b3_b_39 : b3 ≠ b_39 := own_neK f43.lt p39_0
      have ne_b34_b_39 : b34 ≠ b_39 := own_neK p37_0.lt p39_0
      have ne_b6_b_39 : b6 ≠ b_39 := own_neK f44.lt p39_0
      have g_b_39 : n0 ≤ b_39 := Nat.le_trans Z37 p39_0
      have Z39 : n0 ≤ T39.heap.size := Nat.le_trans Z37 kc39.1
      have pv39_4 : Fld Z T39.heap b34 "java/util/AbstractList" "modCount" "I" (.int (1 : Int32)) := p39_4
      have pv39_6 : Arv Z T39.heap b_39 kb_39 (.object "java/lang/Object") (10 : Int32) [(.ref b1), .null, .null, .null, .null, .null, .null, .null, .null, .null] .null := p39_6
      show Ga _ _ _ _ _ _ _ _ _ _ _ [(.int (1 : Int32))]
      refine g_pop X39 hx (hb hby at_92) rfl rfl ?_
      refine g_iload X39 hx (hb hby at_93) rfl rfl ?_
      refine g_iconst X39 hx (r := (1 : Int32)) (hb hby at_95) rfl rfl ?_
      refine g_icmpN X39 hx (hb hby at_96) rfl (XT.ii_le_f (by decide : (1 : Int32) < (2 : Int32))) ?_
      refine g_aload X39 hx (hb hby at_99) rfl rfl rfl ?_
      refine g_aload X39 hx (hb hby at_101) rfl rfl rfl ?_
      have f46 : Exa Z T39.heap b3 "[B" := (((((((((A3.wr W4).wr W5).ext E6).wr W8).wr W9).wr W10).ext E34).keep kc37).keep kc39)
      refine g_virtual X39 hx hZ hown (hw _ (List.mem_of_getElem? (i := 28) rfl)) (hw _ (List.mem_of_getElem? (i := 29) rfl)) (notFace_of_selects (args := #[]) (mvT hZ (hw _ (List.mem_of_getElem? (i := 31) rfl)))) (hw _ (List.mem_of_getElem? (i := 31) rfl)) (hw _ (List.mem_of_getElem? (i := 30) rfl)) (hw _ (List.mem_of_getElem? (i := 4) rfl)) (hw _ (List.mem_of_getElem? (i := 32) rfl)) (by decide) (a := b34) p39_1 (rm_addn l Z a0 hw b34 (1 : Int32) b_39 kb_39 (1 : Int32) [(.ref b1), .null, .null, .null, .null, .null, .null, .null, .null, .null] b3 T39.heap n0 Z39 p39_2 p39_3 pv39_4 p39_1 g_b34 g_b_39 ne_b34_b_39 pv39_6 p39_5 (by first | decide | assumption | rfl | (intro _; rfl)) (by first | decide | assumption | rfl | (intro _; rfl)) (by first | decide | assumption | rfl | (intro _; rfl)) (Ins.of_exa f46 (hw _ (List.mem_of_getElem? (i := 58) rfl)))) (by rw [hml]; rfl) rfl [(.ref b3)] rfl rfl (W := 0) (Nat.le_of_eq rfl) (by decide) (by decide) (by decide) (by decide) (lenOf pd_7 rfl) (hb hby at_103) rfl fun v45 T45 L45 X45 hQ45 => ?_
      obtain ⟨rfl, Nq45, kc45, p45_0, p45_1, p45_2, p45_3, p45_4⟩ := hQ45
      have N45 := Fr.app N39 Nq45
      have Z45 : n0 ≤ T45.heap.size := Nat.le_trans Z39 kc45.1
      have pv45_2 : Fld Z T45.heap b34 "java/util/ArrayList" "size" "I" (.int (2 : Int32)) := p45_2
      have pv45_3 : Fld Z T45.heap b34 "java/util/AbstractList" "modCount" "I" (.int (2 : Int32)) := p45_3
      have pv45_4 : Arv Z T45.heap b_39 kb_39 (.object "java/lang/Object") (10 : Int32) [(.ref b1), (.ref b3), .null, .null, .null, .null, .null, .null, .null, .null] .null := p45_4
      show Ga _ _ _ _ _ _ _ _ _ _ _ [(.int (1 : Int32))]
      refine g_pop X45 hx (hb hby at_106) rfl rfl ?_
      refine g_iload X45 hx (hb hby at_107) rfl rfl ?_
      refine g_iconst X45 hx (r := (2 : Int32)) (hb hby at_109) rfl rfl ?_
      refine g_icmpY X45 hx (q := 121) (hb hby at_110) (XT.ii_le_t (by decide : ¬ (2 : Int32) < (2 : Int32))) (by decide) (by decide) ?_
      have f48 : Arv Z T45.heap b1 ka1 .byte (1 : Int32) [(.int (p0.toInt8.toInt32))] (.int (0 : Int32)) := ((f42.keep kc39 (ninS ne_b1_b34 nin0)).keep kc45 (ninS ne_b1_b34 (ninS ne_b1_b_39 nin0)))
      have f49 : Arv Z T45.heap b3 ka3 .byte (2 : Int32) [(.int (p1.toInt8.toInt32)), (.int ((p1 >>> ((8 : Int32) &&& 31)).toInt8.toInt32))] (.int (0 : Int32)) := ((f43.keep kc39 (ninS ne_b3_b34 nin0)).keep kc45 (ninS ne_b3_b34 (ninS ne_b3_b_39 nin0)))
      have f50 : Arv Z T45.heap b6 ka6 .byte (3 : Int32) [(.int (p2.toInt8.toInt32)), (.int ((p2 >>> ((8 : Int32) &&& 31)).toInt8.toInt32)), (.int ((p2 >>> ((16 : Int32) &&& 31)).toInt8.toInt32))] (.int (0 : Int32)) := ((f44.keep kc39 (ninS ne_b6_b34 nin0)).keep kc45 (ninS ne_b6_b34 (ninS ne_b6_b_39 nin0)))
      refine g_new X45 hx hZ hown (hw _ (List.mem_of_getElem? (i := 59) rfl)) (hw _ (List.mem_of_getElem? (i := 60) rfl)) (hw _ (List.mem_of_getElem? (i := 61) rfl)) rfl (hb hby at_121) rfl (by decide) (by decide) fun T47 h47 b47 X47 e47 q47 E47 A47 D47 => ?_
      have ne_b1_b47 : b1 ≠ b47 := own_ne f48.lt q47
      have ne_b3_b47 : b3 ≠ b47 := own_ne f49.lt q47
      have ne_b34_b47 : b34 ≠ b47 := own_ne p45_0.lt q47
      have ne_b6_b47 : b6 ≠ b47 := own_ne f50.lt q47
      have ne_b_39_b47 : b_39 ≠ b47 := own_ne pv45_4.lt q47
      have g_b47 : n0 ≤ b47 := Nat.le_trans Z45 (Nat.le_of_eq q47.symm)
      have Z47 : n0 ≤ h47.size := Nat.le_trans Z45 E47.1
      have F47_words : Fld Z h47 b47 "com/example/covering/covering/server/Request" "words" "Ljava/util/List;" .null := D47 (Or.inr (hw _ (List.mem_of_getElem? (i := 67) rfl))) (ty := (.object "java/util/List")) (by decide)
      refine g_dup X47 hx (hb hby at_124) rfl rfl ?_
      refine g_aload X47 hx (hb hby at_125) rfl rfl rfl ?_
      refine g_special X47 hx hZ hown rfl (hw _ (List.mem_of_getElem? (i := 62) rfl)) (hw _ (List.mem_of_getElem? (i := 63) rfl)) (hw _ (List.mem_of_getElem? (i := 61) rfl)) (hw _ (List.mem_of_getElem? (i := 64) rfl)) (by decide) (a := b47) (rm_rqini l Z a0 hw b47 b34 h47 n0 Z47 F47_words A47 g_b47) (by rw [hml]; rfl) e47 [(.ref b34)] rfl rfl (W := 1) (Nat.le_of_eq rfl) (by decide) (by decide) (by decide) (by decide) (lenOf pd_8 rfl) (hb hby at_127) rfl fun v51 T51 L51 X51 hQ51 => ?_
      obtain ⟨rfl, Nq51, kc51, p51_0, p51_1⟩ := hQ51
      have N51 := Fr.app N45 Nq51
      have Z51 : n0 ≤ T51.heap.size := Nat.le_trans Z47 kc51.1
      show Ga _ _ _ _ _ _ _ _ _ _ _ [(.ref b47)]
      refine g_astore X51 hx (Ls' := #[.val (.int p0), .val (.int p1), .val (.int p2), .val (.int p3), .val (.ref b1), .val (.ref b3), .val (.ref b6), .val (.int (2 : Int32)), .val (.int (0 : Int32)), .val (.ref b34), .val (.ref b47), .unset]) (hb hby at_130) rfl rfl rfl ?_
      refine g_aload X51 hx (hb hby at_132) rfl rfl rfl ?_
      refine g_iload X51 hx (hb hby at_134) rfl rfl ?_
      have f53 : Fld Z T51.heap b34 "java/util/ArrayList" "size" "I" (.int (2 : Int32)) := ((pv45_2.ext E47).keep kc51 (ninS ne_b34_b47 nin0))
      have f54 : Fld Z T51.heap b34 "java/util/ArrayList" "elementData" "[Ljava/lang/Object;" (.ref b_39) := ((p45_1.ext E47).keep kc51 (ninS ne_b34_b47 nin0))
      have f55 : Arv Z T51.heap b_39 kb_39 (.object "java/lang/Object") (10 : Int32) [(.ref b1), (.ref b3), .null, .null, .null, .null, .null, .null, .null, .null] .null := ((pv45_4.ext E47).keep kc51 (ninS ne_b_39_b47 nin0))
      have f56 : Exa Z T51.heap b34 "java/util/ArrayList" := ((p45_0.ext E47).keep kc51)
      have f57 : Exa Z T51.heap b1 "[B" := ((((f41.keep kc39).keep kc45).ext E47).keep kc51)
      refine g_virtual X51 hx hZ hown (hw _ (List.mem_of_getElem? (i := 68) rfl)) (hw _ (List.mem_of_getElem? (i := 69) rfl)) (notFace_of_selects (args := #[]) (mvT hZ (hw _ (List.mem_of_getElem? (i := 71) rfl)))) (hw _ (List.mem_of_getElem? (i := 71) rfl)) (hw _ (List.mem_of_getElem? (i := 70) rfl)) (hw _ (List.mem_of_getElem? (i := 61) rfl)) (hw _ (List.mem_of_getElem? (i := 72) rfl)) (by decide) (a := b47) p51_0 (rm_word l Z a0 hw b47 b34 b_39 kb_39 (2 : Int32) [(.ref b1), (.ref b3), .null, .null, .null, .null, .null, .null, .null, .null] (0 : Int32) b1 T51.heap n0 Z51 p51_1 f53 f54 f55 f56 (by first | decide | assumption | rfl | (intro _; rfl)) (by first | decide | assumption | rfl | (intro _; rfl)) (by first | decide | assumption | rfl | (intro _; rfl)) (by first | decide | assumption | rfl | (intro _; rfl)) (Ins.self f57)) (by rw [hml]; rfl) rfl [(.int (0 : Int32))] rfl rfl (W := 0) (Nat.le_of_eq rfl) (by decide) (by decide) (by decide) (by decide) (lenOf pd_9 rfl) (hb hby at_136) rfl fun v52 T52 L52 X52 hQ52 => ?_
      obtain ⟨rfl, Nq52, eh52⟩ := hQ52
      have N52 := Fr.app N51 Nq52
      show Ga _ _ _ _ _ _ _ _ _ _ _ [(.ref b1)]
      refine g_astore X52 hx (Ls' := #[.val (.int p0), .val (.int p1), .val (.int p2), .val (.int p3), .val (.ref b1), .val (.ref b3), .val (.ref b6), .val (.int (2 : Int32)), .val (.int (0 : Int32)), .val (.ref b34), .val (.ref b47), .val (.ref b1)]) (hb hby at_139) rfl rfl rfl ?_
      refine g_aload X52 hx (hb hby at_141) rfl rfl rfl ?_
      refine g_ifnonnullY X52 hx (q := 148) (hb hby at_143) (by decide) (by decide) ?_
      refine g_iload X52 hx (hb hby at_148) rfl rfl ?_
      refine g_ifN X52 hx (hb hby at_150) rfl (XT.i0_ne_f (by decide : (0 : Int32) = (0 : Int32))) ?_
      refine g_aload X52 hx (hb hby at_153) rfl rfl rfl ?_
      have f58 : Arv Z T51.heap b1 ka1 .byte (1 : Int32) [(.int (p0.toInt8.toInt32))] (.int (0 : Int32)) := ((f48.ext E47).keep kc51 (ninS ne_b1_b47 nin0))
      refine g_len X52 hx hZ eh52 f58 (hb hby at_155) rfl ?_
      refine g_iconst X52 hx (r := (1 : Int32)) (hb hby at_156) rfl rfl ?_
      refine g_icmpN X52 hx (hb hby at_157) rfl (XT.ii_ne_f (by decide : (1 : Int32) = (1 : Int32))) ?_
      refine g_aload X52 hx (hb hby at_160) rfl rfl rfl ?_
      refine g_iconst X52 hx (r := (0 : Int32)) (hb hby at_162) rfl rfl ?_
      refine g_baload X52 hx hZ eh52 f58 (v := (.int (p0.toInt8.toInt32))) ⟨by decide, by decide⟩ rfl (hb hby at_163) rfl ?_
      refine g_iloadN X52 hx (hb hby at_164) rfl rfl ?_
      refine g_i2b X52 hx (hb hby at_165) rfl rfl ?_
      refine g_icmpN X52 hx (hb hby at_166) rfl (XT.ii_ne_f rfl) ?_
      refine g_iconst X52 hx (r := (1 : Int32)) (hb hby at_169) rfl rfl ?_
      refine g_goto X52 hx (q := 174) (hb hby at_170) (by decide) (by decide) ?_
      exact g_retN X52 hx (t := .boolean) (r := (1 : Int32)) hret (by simp) hlk (hb hby at_174) rfl (by decide) (by decide) (by rw [eh52]; exact ⟨rfl, N52⟩)
    · skip
      have f60 : Arv Z h10 b1 ka1 .byte (1 : Int32) [(.int (p0.toInt8.toInt32))] (.int (0 : Int32)) := ((((f7.ext E6).other W8 ne_b1_b6).other W9 ne_b1_b6).other W10 ne_b1_b6)
      have f61 : Arv Z h10 b3 ka3 .byte (2 : Int32) [(.int (p1.toInt8.toInt32)), (.int ((p1 >>> ((8 : Int32) &&& 31)).toInt8.toInt32))] (.int (0 : Int32)) := ((((Vn5.ext E6).other W8 ne_b3_b6).other W9 ne_b3_b6).other W10 ne_b3_b6)
      refine g_new X10 hx hZ hown (hw _ (List.mem_of_getElem? (i := 2) rfl)) (hw _ (List.mem_of_getElem? (i := 3) rfl)) (hw _ (List.mem_of_getElem? (i := 4) rfl)) e10 (hb hby at_76) rfl (by decide) (by decide) fun T59 h59 b59 X59 e59 q59 E59 A59 D59 => ?_
      have ne_b1_b59 : b1 ≠ b59 := own_ne f60.lt q59
      have ne_b3_b59 : b3 ≠ b59 := own_ne f61.lt q59
      have ne_b6_b59 : b6 ≠ b59 := own_ne Vn10.lt q59
      have g_b59 : n0 ≤ b59 := Nat.le_trans Z10 (Nat.le_of_eq q59.symm)
      have Z59 : n0 ≤ h59.size := Nat.le_trans Z10 E59.1
      have F59_modCount : Fld Z h59 b59 "java/util/AbstractList" "modCount" "I" (.int (0 : Int32)) := D59 (Or.inl (hw _ (List.mem_of_getElem? (i := 24) rfl))) (ty := .int) (by decide)
      have F59_elementData : Fld Z h59 b59 "java/util/ArrayList" "elementData" "[Ljava/lang/Object;" .null := D59 (Or.inl (hw _ (List.mem_of_getElem? (i := 27) rfl))) (ty := (.array (.object "java/lang/Object"))) (by decide)
      have F59_size : Fld Z h59 b59 "java/util/ArrayList" "size" "I" (.int (0 : Int32)) := D59 (Or.inl (hw _ (List.mem_of_getElem? (i := 36) rfl))) (ty := .int) (by decide)
      refine g_dup X59 hx (hb hby at_79) rfl rfl ?_
      have f63 : Old Z n0 h59 := ((((((((((old0.ext E1).wr W2 g_b1).ext E3).wr W4 g_b3).wr W5 g_b3).ext E6).wr W8 g_b6).wr W9 g_b6).wr W10 g_b6).ext E59)
      refine g_special X59 hx hZ hown rfl (hw _ (List.mem_of_getElem? (i := 5) rfl)) (hw _ (List.mem_of_getElem? (i := 6) rfl)) (hw _ (List.mem_of_getElem? (i := 4) rfl)) (hw _ (List.mem_of_getElem? (i := 7) rfl)) (by decide) (a := b59) (rm_alini l Z a0 hw b59 d0 h59 n0 Z59 F59_elementData F59_size F59_modCount A59 g_b59 f63 S0_DEFAULTCAPACITY_EMPTY_ELEMENTDATA) (by rw [hml]; rfl) e59 [] rfl rfl (W := 1) (Nat.le_of_eq rfl) (by decide) (by decide) (by decide) (by decide) (lenOf pd_0 rfl) (hb hby at_80) rfl fun v62 T62 L62 X62 hQ62 => ?_
      obtain ⟨rfl, Nq62, kc62, p62_0, p62_1, p62_2, p62_3⟩ := hQ62
      have N62 := Fr.app N10 Nq62
      have Z62 : n0 ≤ T62.heap.size := Nat.le_trans Z59 kc62.1
      show Ga _ _ _ _ _ _ _ _ _ _ _ [(.ref b59)]
      refine g_astore X62 hx (Ls' := #[.val (.int p0), .val (.int p1), .val (.int p2), .val (.int p3), .val (.ref b1), .val (.ref b3), .val (.ref b6), .val (.int (2 : Int32)), .val (.int (1 : Int32)), .val (.ref b59), .unset, .unset]) (hb hby at_83) rfl rfl rfl ?_
      refine g_aload X62 hx (hb hby at_85) rfl rfl rfl ?_
      refine g_aload X62 hx (hb hby at_87) rfl rfl rfl ?_
      have f65 : Old Z n0 T62.heap := (f63.keep kc62 (allS g_b59 all0))
      have f66 : Exa Z T62.heap b1 "[B" := ((((((((((A1.wr W2).ext E3).wr W4).wr W5).ext E6).wr W8).wr W9).wr W10).ext E59).keep kc62)
      refine g_virtual X62 hx hZ hown (hw _ (List.mem_of_getElem? (i := 28) rfl)) (hw _ (List.mem_of_getElem? (i := 29) rfl)) (notFace_of_selects (args := #[]) (mvT hZ (hw _ (List.mem_of_getElem? (i := 31) rfl)))) (hw _ (List.mem_of_getElem? (i := 31) rfl)) (hw _ (List.mem_of_getElem? (i := 30) rfl)) (hw _ (List.mem_of_getElem? (i := 4) rfl)) (hw _ (List.mem_of_getElem? (i := 32) rfl)) (by decide) (a := b59) p62_0 (rm_addf l Z a0 hw b59 (0 : Int32) d0 kd b1 T62.heap n0 Z62 p62_1 p62_2 p62_3 p62_0 g_b59 f65 S0_DEFAULTCAPACITY_EMPTY_ELEMENTDATA V0_d0 (Ins.of_exa f66 (hw _ (List.mem_of_getElem? (i := 58) rfl)))) (by rw [hml]; rfl) rfl [(.ref b1)] rfl rfl (W := 0) (Nat.le_of_eq rfl) (by decide) (by decide) (by decide) (by decide) (lenOf pd_7 rfl) (hb hby at_89) rfl fun v64 T64 L64 X64 hQ64 => ?_
      obtain ⟨b_64, kb_64, rfl, Nq64, kc64, p64_0, p64_1, p64_2, p64_3, p64_4, p64_5, p64_6⟩ := hQ64
      have N64 := Fr.app N62 Nq64
      have f67 : Arv Z T62.heap b1 ka1 .byte (1 : Int32) [(.int (p0.toInt8.toInt32))] (.int (0 : Int32)) := ((f60.ext E59).keep kc62 (ninS ne_b1_b59 nin0))
      have f68 : Arv Z T62.heap b3 ka3 .byte (2 : Int32) [(.int (p1.toInt8.toInt32)), (.int ((p1 >>> ((8 : Int32) &&& 31)).toInt8.toInt32))] (.int (0 : Int32)) := ((f61.ext E59).keep kc62 (ninS ne_b3_b59 nin0))
      have f69 : Arv Z T62.heap b6 ka6 .byte (3 : Int32) [(.int (p2.toInt8.toInt32)), (.int ((p2 >>> ((8 : Int32) &&& 31)).toInt8.toInt32)), (.int ((p2 >>> ((16 : Int32) &&& 31)).toInt8.toInt32))] (.int (0 : Int32)) := ((Vn10.ext E59).keep kc62 (ninS ne_b6_b59 nin0))
      have ne_b1_b_64 : b1 ≠ b_64 := own_neK f67.lt p64_0
      have ne_b3_b_64 : b3 ≠ b_64 := own_neK f68.lt p64_0
      have ne_b59_b_64 : b59 ≠ b_64 := own_neK p62_0.lt p64_0
      have ne_b6_b_64 : b6 ≠ b_64 := own_neK f69.lt p64_0
      have g_b_64 : n0 ≤ b_64 := Nat.le_trans Z62 p64_0
      have Z64 : n0 ≤ T64.heap.size := Nat.le_trans Z62 kc64.1
      have pv64_4 : Fld Z T64.heap b59 "java/util/AbstractList" "modCount" "I" (.int (1 : Int32)) := p64_4
      have pv64_6 : Arv Z T64.heap b_64 kb_64 (.object "java/lang/Object") (10 : Int32) [(.ref b1), .null, .null, .null, .null, .null, .null, .null, .null, .null] .null := p64_6
      show Ga _ _ _ _ _ _ _ _ _ _ _ [(.int (1 : Int32))]
      refine g_pop X64 hx (hb hby at_92) rfl rfl ?_
      refine g_iload X64 hx (hb hby at_93) rfl rfl ?_
      refine g_iconst X64 hx (r := (1 : Int32)) (hb hby at_95) rfl rfl ?_
      refine g_icmpN X64 hx (hb hby at_96) rfl (XT.ii_le_f (by decide : (1 : Int32) < (2 : Int32))) ?_
      refine g_aload X64 hx (hb hby at_99) rfl rfl rfl ?_
      refine g_aload X64 hx (hb hby at_101) rfl rfl rfl ?_
      have f71 : Exa Z T64.heap b3 "[B" := (((((((((A3.wr W4).wr W5).ext E6).wr W8).wr W9).wr W10).ext E59).keep kc62).keep kc64)
      refine g_virtual X64 hx hZ hown (hw _ (List.mem_of_getElem? (i := 28) rfl)) (hw _ (List.mem_of_getElem? (i := 29) rfl)) (notFace_of_selects (args := #[]) (mvT hZ (hw _ (List.mem_of_getElem? (i := 31) rfl)))) (hw _ (List.mem_of_getElem? (i := 31) rfl)) (hw _ (List.mem_of_getElem? (i := 30) rfl)) (hw _ (List.mem_of_getElem? (i := 4) rfl)) (hw _ (List.mem_of_getElem? (i := 32) rfl)) (by decide) (a := b59) p64_1 (rm_addn l Z a0 hw b59 (1 : Int32) b_64 kb_64 (1 : Int32) [(.ref b1), .null, .null, .null, .null, .null, .null, .null, .null, .null] b3 T64.heap n0 Z64 p64_2 p64_3 pv64_4 p64_1 g_b59 g_b_64 ne_b59_b_64 pv64_6 p64_5 (by first | decide | assumption | rfl | (intro _; rfl)) (by first | decide | assumption | rfl | (intro _; rfl)) (by first | decide | assumption | rfl | (intro _; rfl)) (Ins.of_exa f71 (hw _ (List.mem_of_getElem? (i := 58) rfl)))) (by rw [hml]; rfl) rfl [(.ref b3)] rfl rfl (W := 0) (Nat.le_of_eq rfl) (by decide) (by decide) (by decide) (by decide) (lenOf pd_7 rfl) (hb hby at_103) rfl fun v70 T70 L70 X70 hQ70 => ?_
      obtain ⟨rfl, Nq70, kc70, p70_0, p70_1, p70_2, p70_3, p70_4⟩ := hQ70
      have N70 := Fr.app N64 Nq70
      have Z70 : n0 ≤ T70.heap.size := Nat.le_trans Z64 kc70.1
      have pv70_2 : Fld Z T70.heap b59 "java/util/ArrayList" "size" "I" (.int (2 : Int32)) := p70_2
      have pv70_3 : Fld Z T70.heap b59 "java/util/AbstractList" "modCount" "I" (.int (2 : Int32)) := p70_3
      have pv70_4 : Arv Z T70.heap b_64 kb_64 (.object "java/lang/Object") (10 : Int32) [(.ref b1), (.ref b3), .null, .null, .null, .null, .null, .null, .null, .null] .null := p70_4
      show Ga _ _ _ _ _ _ _ _ _ _ _ [(.int (1 : Int32))]
      refine g_pop X70 hx (hb hby at_106) rfl rfl ?_
      refine g_iload X70 hx (hb hby at_107) rfl rfl ?_
      refine g_iconst X70 hx (r := (2 : Int32)) (hb hby at_109) rfl rfl ?_
      refine g_icmpY X70 hx (q := 121) (hb hby at_110) (XT.ii_le_t (by decide : ¬ (2 : Int32) < (2 : Int32))) (by decide) (by decide) ?_
      have f73 : Arv Z T70.heap b1 ka1 .byte (1 : Int32) [(.int (p0.toInt8.toInt32))] (.int (0 : Int32)) := ((f67.keep kc64 (ninS ne_b1_b59 nin0)).keep kc70 (ninS ne_b1_b59 (ninS ne_b1_b_64 nin0)))
      have f74 : Arv Z T70.heap b3 ka3 .byte (2 : Int32) [(.int (p1.toInt8.toInt32)), (.int ((p1 >>> ((8 : Int32) &&& 31)).toInt8.toInt32))] (.int (0 : Int32)) := ((f68.keep kc64 (ninS ne_b3_b59 nin0)).keep kc70 (ninS ne_b3_b59 (ninS ne_b3_b_64 nin0)))
      have f75 : Arv Z T70.heap b6 ka6 .byte (3 : Int32) [(.int (p2.toInt8.toInt32)), (.int ((p2 >>> ((8 : Int32) &&& 31)).toInt8.toInt32)), (.int ((p2 >>> ((16 : Int32) &&& 31)).toInt8.toInt32))] (.int (0 : Int32)) := ((f69.keep kc64 (ninS ne_b6_b59 nin0)).keep kc70 (ninS ne_b6_b59 (ninS ne_b6_b_64 nin0)))
      refine g_new X70 hx hZ hown (hw _ (List.mem_of_getElem? (i := 59) rfl)) (hw _ (List.mem_of_getElem? (i := 60) rfl)) (hw _ (List.mem_of_getElem? (i := 61) rfl)) rfl (hb hby at_121) rfl (by decide) (by decide) fun T72 h72 b72 X72 e72 q72 E72 A72 D72 => ?_
      have ne_b1_b72 : b1 ≠ b72 := own_ne f73.lt q72
      have ne_b3_b72 : b3 ≠ b72 := own_ne f74.lt q72
      have ne_b59_b72 : b59 ≠ b72 := own_ne p70_0.lt q72
      have ne_b6_b72 : b6 ≠ b72 := own_ne f75.lt q72
      have ne_b_64_b72 : b_64 ≠ b72 := own_ne pv70_4.lt q72
      have g_b72 : n0 ≤ b72 := Nat.le_trans Z70 (Nat.le_of_eq q72.symm)
      have Z72 : n0 ≤ h72.size := Nat.le_trans Z70 E72.1
      have F72_words : Fld Z h72 b72 "com/example/covering/covering/server/Request" "words" "Ljava/util/List;" .null := D72 (Or.inr (hw _ (List.mem_of_getElem? (i := 67) rfl))) (ty := (.object "java/util/List")) (by decide)
      refine g_dup X72 hx (hb hby at_124) rfl rfl ?_
      refine g_aload X72 hx (hb hby at_125) rfl rfl rfl ?_
      refine g_special X72 hx hZ hown rfl (hw _ (List.mem_of_getElem? (i := 62) rfl)) (hw _ (List.mem_of_getElem? (i := 63) rfl)) (hw _ (List.mem_of_getElem? (i := 61) rfl)) (hw _ (List.mem_of_getElem? (i := 64) rfl)) (by decide) (a := b72) (rm_rqini l Z a0 hw b72 b59 h72 n0 Z72 F72_words A72 g_b72) (by rw [hml]; rfl) e72 [(.ref b59)] rfl rfl (W := 1) (Nat.le_of_eq rfl) (by decide) (by decide) (by decide) (by decide) (lenOf pd_8 rfl) (hb hby at_127) rfl fun v76 T76 L76 X76 hQ76 => ?_
      obtain ⟨rfl, Nq76, kc76, p76_0, p76_1⟩ := hQ76
      have N76 := Fr.app N70 Nq76
      have Z76 : n0 ≤ T76.heap.size := Nat.le_trans Z72 kc76.1
      show Ga _ _ _ _ _ _ _ _ _ _ _ [(.ref b72)]
      refine g_astore X76 hx (Ls' := #[.val (.int p0), .val (.int p1), .val (.int p2), .val (.int p3), .val (.ref b1), .val (.ref b3), .val (.ref b6), .val (.int (2 : Int32)), .val (.int (1 : Int32)), .val (.ref b59), .val (.ref b72), .unset]) (hb hby at_130) rfl rfl rfl ?_
      refine g_aload X76 hx (hb hby at_132) rfl rfl rfl ?_
      refine g_iload X76 hx (hb hby at_134) rfl rfl ?_
      have f78 : Fld Z T76.heap b59 "java/util/ArrayList" "size" "I" (.int (2 : Int32)) := ((pv70_2.ext E72).keep kc76 (ninS ne_b59_b72 nin0))
      have f79 : Fld Z T76.heap b59 "java/util/ArrayList" "elementData" "[Ljava/lang/Object;" (.ref b_64) := ((p70_1.ext E72).keep kc76 (ninS ne_b59_b72 nin0))
      have f80 : Arv Z T76.heap b_64 kb_64 (.object "java/lang/Object") (10 : Int32) [(.ref b1), (.ref b3), .null, .null, .null, .null, .null, .null, .null, .null] .null := ((pv70_4.ext E72).keep kc76 (ninS ne_b_64_b72 nin0))
      have f81 : Exa Z T76.heap b59 "java/util/ArrayList" := ((p70_0.ext E72).keep kc76)
      have f82 : Exa Z T76.heap b3 "[B" := (((f71.keep kc70).ext E72).keep kc76)
      refine g_virtual X76 hx hZ hown (hw _ (List.mem_of_getElem? (i := 68) rfl)) (hw _ (List.mem_of_getElem? (i := 69) rfl)) (notFace_of_selects (args := #[]) (mvT hZ (hw _ (List.mem_of_getElem? (i := 71) rfl)))) (hw _ (List.mem_of_getElem? (i := 71) rfl)) (hw _ (List.mem_of_getElem? (i := 70) rfl)) (hw _ (List.mem_of_getElem? (i := 61) rfl)) (hw _ (List.mem_of_getElem? (i := 72) rfl)) (by decide) (a := b72) p76_0 (rm_word l Z a0 hw b72 b59 b_64 kb_64 (2 : Int32) [(.ref b1), (.ref b3), .null, .null, .null, .null, .null, .null, .null, .null] (1 : Int32) b3 T76.heap n0 Z76 p76_1 f78 f79 f80 f81 (by first | decide | assumption | rfl | (intro _; rfl)) (by first | decide | assumption | rfl | (intro _; rfl)) (by first | decide | assumption | rfl | (intro _; rfl)) (by first | decide | assumption | rfl | (intro _; rfl)) (Ins.self f82)) (by rw [hml]; rfl) rfl [(.int (1 : Int32))] rfl rfl (W := 0) (Nat.le_of_eq rfl) (by decide) (by decide) (by decide) (by decide) (lenOf pd_9 rfl) (hb hby at_136) rfl fun v77 T77 L77 X77 hQ77 => ?_
      obtain ⟨rfl, Nq77, eh77⟩ := hQ77
      have N77 := Fr.app N76 Nq77
      show Ga _ _ _ _ _ _ _ _ _ _ _ [(.ref b3)]
      refine g_astore X77 hx (Ls' := #[.val (.int p0), .val (.int p1), .val (.int p2), .val (.int p3), .val (.ref b1), .val (.ref b3), .val (.ref b6), .val (.int (2 : Int32)), .val (.int (1 : Int32)), .val (.ref b59), .val (.ref b72), .val (.ref b3)]) (hb hby at_139) rfl rfl rfl ?_
      refine g_aload X77 hx (hb hby at_141) rfl rfl rfl ?_
      refine g_ifnonnullY X77 hx (q := 148) (hb hby at_143) (by decide) (by decide) ?_
      refine g_iload X77 hx (hb hby at_148) rfl rfl ?_
      refine g_ifY X77 hx (q := 175) (hb hby at_150) (XT.i0_ne_t (by decide : ¬ (1 : Int32) = (0 : Int32))) (by decide) (by decide) ?_
      refine g_iload X77 hx (hb hby at_175) rfl rfl ?_
      refine g_iconst X77 hx (r := (1 : Int32)) (hb hby at_177) rfl rfl ?_
      refine g_icmpN X77 hx (hb hby at_178) rfl (XT.ii_ne_f (by decide : (1 : Int32) = (1 : Int32))) ?_
      refine g_aload X77 hx (hb hby at_181) rfl rfl rfl ?_
      have f83 : Arv Z T76.heap b3 ka3 .byte (2 : Int32) [(.int (p1.toInt8.toInt32)), (.int ((p1 >>> ((8 : Int32) &&& 31)).toInt8.toInt32))] (.int (0 : Int32)) := ((f74.ext E72).keep kc76 (ninS ne_b3_b72 nin0))
      refine g_len X77 hx hZ eh77 f83 (hb hby at_183) rfl ?_
      refine g_iconst X77 hx (r := (2 : Int32)) (hb hby at_184) rfl rfl ?_
      refine g_icmpN X77 hx (hb hby at_185) rfl (XT.ii_ne_f (by decide : (2 : Int32) = (2 : Int32))) ?_
      refine g_aload X77 hx (hb hby at_188) rfl rfl rfl ?_
      refine g_iconst X77 hx (r := (0 : Int32)) (hb hby at_190) rfl rfl ?_
      refine g_baload X77 hx hZ eh77 f83 (v := (.int (p1.toInt8.toInt32))) ⟨by decide, by decide⟩ rfl (hb hby at_191) rfl ?_
      refine g_iloadN X77 hx (hb hby at_192) rfl rfl ?_
      refine g_i2b X77 hx (hb hby at_193) rfl rfl ?_
      refine g_icmpN X77 hx (hb hby at_194) rfl (XT.ii_ne_f rfl) ?_
      refine g_aload X77 hx (hb hby at_197) rfl rfl rfl ?_
      refine g_iconst X77 hx (r := (1 : Int32)) (hb hby at_199) rfl rfl ?_
      refine g_baload X77 hx hZ eh77 f83 (v := (.int ((p1 >>> ((8 : Int32) &&& 31)).toInt8.toInt32))) ⟨by decide, by decide⟩ rfl (hb hby at_200) rfl ?_
      refine g_iloadN X77 hx (hb hby at_201) rfl rfl ?_
      refine g_bipush X77 hx (r := (8 : Int32)) (hb hby at_202) rfl rfl ?_
      refine g_ishr X77 hx (hb hby at_204) rfl rfl ?_
      refine g_i2b X77 hx (hb hby at_205) rfl rfl ?_
      refine g_icmpN X77 hx (hb hby at_206) rfl (XT.ii_ne_f rfl) ?_
      refine g_iconst X77 hx (r := (1 : Int32)) (hb hby at_209) rfl rfl ?_
      refine g_goto X77 hx (q := 214) (hb hby at_210) (by decide) (by decide) ?_
      exact g_retN X77 hx (t := .boolean) (r := (1 : Int32)) hret (by simp) hlk (hb hby at_214) rfl (by decide) (by decide) (by rw [eh77]; exact ⟨rfl, N77⟩)
  · skip
    refine g_iadd X10 hx (r := (3 : Int32)) (hb hby at_61) rfl rfl ?_
    refine g_istore X10 hx (Ls' := #[.val (.int p0), .val (.int p1), .val (.int p2), .val (.int p3), .val (.ref b1), .val (.ref b3), .val (.ref b6), .val (.int (3 : Int32)), .unset, .unset, .unset, .unset]) (hb hby at_62) rfl rfl ?_
    refine g_iloadN X10 hx (hb hby at_64) rfl rfl ?_
    refine g_bipush X10 hx (r := (8 : Int32)) (hb hby at_65) rfl rfl ?_
    refine g_iushr X10 hx (hb hby at_67) rfl rfl ?_
    refine g_ldcI X10 hx hZ hown (hw _ (List.mem_of_getElem? (i := 1) rfl)) (hb hby at_68) rfl ?_
    refine g_iand X10 hx (hb hby at_70) rfl rfl ?_
    refine g_iload X10 hx (hb hby at_71) rfl rfl ?_
    obtain ⟨v73, hv73⟩ : ∃ r, ((((p3.toUInt32 >>> ((8 : Int32) &&& 31).toUInt32).toInt32) &&& (2147483647 : Int32)) % (3 : Int32)) = r := ⟨_, rfl⟩
    refine g_irem X10 hx (hb hby at_73) rfl (by decide) hv73 ?_
    refine g_istore X10 hx (Ls' := #[.val (.int p0), .val (.int p1), .val (.int p2), .val (.int p3), .val (.ref b1), .val (.ref b3), .val (.ref b6), .val (.int (3 : Int32)), .val (.int v73), .unset, .unset, .unset]) (hb hby at_74) rfl rfl ?_
    have hcs_v73 : v73 = (0 : Int32) ∨ v73 = (1 : Int32) ∨ v73 = (2 : Int32) := own_rem3 (own_mx rfl) hv73
    rcases hcs_v73 with rfl | rfl | rfl
    · skip
      have f85 : Arv Z h10 b1 ka1 .byte (1 : Int32) [(.int (p0.toInt8.toInt32))] (.int (0 : Int32)) := ((((f7.ext E6).other W8 ne_b1_b6).other W9 ne_b1_b6).other W10 ne_b1_b6)
      have f86 : Arv Z h10 b3 ka3 .byte (2 : Int32) [(.int (p1.toInt8.toInt32)), (.int ((p1 >>> ((8 : Int32) &&& 31)).toInt8.toInt32))] (.int (0 : Int32)) := ((((Vn5.ext E6).other W8 ne_b3_b6).other W9 ne_b3_b6).other W10 ne_b3_b6)
      refine g_new X10 hx hZ hown (hw _ (List.mem_of_getElem? (i := 2) rfl)) (hw _ (List.mem_of_getElem? (i := 3) rfl)) (hw _ (List.mem_of_getElem? (i := 4) rfl)) e10 (hb hby at_76) rfl (by decide) (by decide) fun T84 h84 b84 X84 e84 q84 E84 A84 D84 => ?_
      have ne_b1_b84 : b1 ≠ b84 := own_ne f85.lt q84
      have ne_b3_b84 : b3 ≠ b84 := own_ne f86.lt q84
      have ne_b6_b84 : b6 ≠ b84 := own_ne Vn10.lt q84
      have g_b84 : n0 ≤ b84 := Nat.le_trans Z10 (Nat.le_of_eq q84.symm)
      have Z84 : n0 ≤ h84.size := Nat.le_trans Z10 E84.1
      have F84_modCount : Fld Z h84 b84 "java/util/AbstractList" "modCount" "I" (.int (0 : Int32)) := D84 (Or.inl (hw _ (List.mem_of_getElem? (i := 24) rfl))) (ty := .int) (by decide)
      have F84_elementData : Fld Z h84 b84 "java/util/ArrayList" "elementData" "[Ljava/lang/Object;" .null := D84 (Or.inl (hw _ (List.mem_of_getElem? (i := 27) rfl))) (ty := (.array (.object "java/lang/Object"))) (by decide)
      have F84_size : Fld Z h84 b84 "java/util/ArrayList" "size" "I" (.int (0 : Int32)) := D84 (Or.inl (hw _ (List.mem_of_getElem? (i := 36) rfl))) (ty := .int) (by decide)
      refine g_dup X84 hx (hb hby at_79) rfl rfl ?_
      have f88 : Old Z n0 h84 := ((((((((((old0.ext E1).wr W2 g_b1).ext E3).wr W4 g_b3).wr W5 g_b3).ext E6).wr W8 g_b6).wr W9 g_b6).wr W10 g_b6).ext E84)
      refine g_special X84 hx hZ hown rfl (hw _ (List.mem_of_getElem? (i := 5) rfl)) (hw _ (List.mem_of_getElem? (i := 6) rfl)) (hw _ (List.mem_of_getElem? (i := 4) rfl)) (hw _ (List.mem_of_getElem? (i := 7) rfl)) (by decide) (a := b84) (rm_alini l Z a0 hw b84 d0 h84 n0 Z84 F84_elementData F84_size F84_modCount A84 g_b84 f88 S0_DEFAULTCAPACITY_EMPTY_ELEMENTDATA) (by rw [hml]; rfl) e84 [] rfl rfl (W := 1) (Nat.le_of_eq rfl) (by decide) (by decide) (by decide) (by decide) (lenOf pd_0 rfl) (hb hby at_80) rfl fun v87 T87 L87 X87 hQ87 => ?_
      obtain ⟨rfl, Nq87, kc87, p87_0, p87_1, p87_2, p87_3⟩ := hQ87
      have N87 := Fr.app N10 Nq87
      have Z87 : n0 ≤ T87.heap.size := Nat.le_trans Z84 kc87.1
      show Ga _ _ _ _ _ _ _ _ _ _ _ [(.ref b84)]
      refine g_astore X87 hx (Ls' := #[.val (.int p0), .val (.int p1), .val (.int p2), .val (.int p3), .val (.ref b1), .val (.ref b3), .val (.ref b6), .val (.int (3 : Int32)), .val (.int (0 : Int32)), .val (.ref b84), .unset, .unset]) (hb hby at_83) rfl rfl rfl ?_
      refine g_aload X87 hx (hb hby at_85) rfl rfl rfl ?_
      refine g_aload X87 hx (hb hby at_87) rfl rfl rfl ?_
      have f90 : Old Z n0 T87.heap := (f88.keep kc87 (allS g_b84 all0))
      have f91 : Exa Z T87.heap b1 "[B" := ((((((((((A1.wr W2).ext E3).wr W4).wr W5).ext E6).wr W8).wr W9).wr W10).ext E84).keep kc87)
      refine g_virtual X87 hx hZ hown (hw _ (List.mem_of_getElem? (i := 28) rfl)) (hw _ (List.mem_of_getElem? (i := 29) rfl)) (notFace_of_selects (args := #[]) (mvT hZ (hw _ (List.mem_of_getElem? (i := 31) rfl)))) (hw _ (List.mem_of_getElem? (i := 31) rfl)) (hw _ (List.mem_of_getElem? (i := 30) rfl)) (hw _ (List.mem_of_getElem? (i := 4) rfl)) (hw _ (List.mem_of_getElem? (i := 32) rfl)) (by decide) (a := b84) p87_0 (rm_addf l Z a0 hw b84 (0 : Int32) d0 kd b1 T87.heap n0 Z87 p87_1 p87_2 p87_3 p87_0 g_b84 f90 S0_DEFAULTCAPACITY_EMPTY_ELEMENTDATA V0_d0 (Ins.of_exa f91 (hw _ (List.mem_of_getElem? (i := 58) rfl)))) (by rw [hml]; rfl) rfl [(.ref b1)] rfl rfl (W := 0) (Nat.le_of_eq rfl) (by decide) (by decide) (by decide) (by decide) (lenOf pd_7 rfl) (hb hby at_89) rfl fun v89 T89 L89 X89 hQ89 => ?_
      obtain ⟨b_89, kb_89, rfl, Nq89, kc89, p89_0, p89_1, p89_2, p89_3, p89_4, p89_5, p89_6⟩ := hQ89
      have N89 := Fr.app N87 Nq89
      have f92 : Arv Z T87.heap b1 ka1 .byte (1 : Int32) [(.int (p0.toInt8.toInt32))] (.int (0 : Int32)) := ((f85.ext E84).keep kc87 (ninS ne_b1_b84 nin0))
      have f93 : Arv Z T87.heap b3 ka3 .byte (2 : Int32) [(.int (p1.toInt8.toInt32)), (.int ((p1 >>> ((8 : Int32) &&& 31)).toInt8.toInt32))] (.int (0 : Int32)) := ((f86.ext E84).keep kc87 (ninS ne_b3_b84 nin0))
      have f94 : Arv Z T87.heap b6 ka6 .byte (3 : Int32) [(.int (p2.toInt8.toInt32)), (.int ((p2 >>> ((8 : Int32) &&& 31)).toInt8.toInt32)), (.int ((p2 >>> ((16 : Int32) &&& 31)).toInt8.toInt32))] (.int (0 : Int32)) := ((Vn10.ext E84).keep kc87 (ninS ne_b6_b84 nin0))
      have ne_b1_b_89 : b1 ≠ b_89 := own_neK f92.lt p89_0
      have ne_b3_b_89 : b3 ≠ b_89 := own_neK f93.lt p89_0
      have ne_b6_b_89 : b6 ≠ b_89 := own_neK f94.lt p89_0
      have ne_b84_b_89 : b84 ≠ b_89 := own_neK p87_0.lt p89_0
      have g_b_89 : n0 ≤ b_89 := Nat.le_trans Z87 p89_0
      have Z89 : n0 ≤ T89.heap.size := Nat.le_trans Z87 kc89.1
      have pv89_4 : Fld Z T89.heap b84 "java/util/AbstractList" "modCount" "I" (.int (1 : Int32)) := p89_4
      have pv89_6 : Arv Z T89.heap b_89 kb_89 (.object "java/lang/Object") (10 : Int32) [(.ref b1), .null, .null, .null, .null, .null, .null, .null, .null, .null] .null := p89_6
      show Ga _ _ _ _ _ _ _ _ _ _ _ [(.int (1 : Int32))]
      refine g_pop X89 hx (hb hby at_92) rfl rfl ?_
      refine g_iload X89 hx (hb hby at_93) rfl rfl ?_
      refine g_iconst X89 hx (r := (1 : Int32)) (hb hby at_95) rfl rfl ?_
      refine g_icmpN X89 hx (hb hby at_96) rfl (XT.ii_le_f (by decide : (1 : Int32) < (3 : Int32))) ?_
      refine g_aload X89 hx (hb hby at_99) rfl rfl rfl ?_
      refine g_aload X89 hx (hb hby at_101) rfl rfl rfl ?_
      have f96 : Exa Z T89.heap b3 "[B" := (((((((((A3.wr W4).wr W5).ext E6).wr W8).wr W9).wr W10).ext E84).keep kc87).keep kc89)
      refine g_virtual X89 hx hZ hown (hw _ (List.mem_of_getElem? (i := 28) rfl)) (hw _ (List.mem_of_getElem? (i := 29) rfl)) (notFace_of_selects (args := #[]) (mvT hZ (hw _ (List.mem_of_getElem? (i := 31) rfl)))) (hw _ (List.mem_of_getElem? (i := 31) rfl)) (hw _ (List.mem_of_getElem? (i := 30) rfl)) (hw _ (List.mem_of_getElem? (i := 4) rfl)) (hw _ (List.mem_of_getElem? (i := 32) rfl)) (by decide) (a := b84) p89_1 (rm_addn l Z a0 hw b84 (1 : Int32) b_89 kb_89 (1 : Int32) [(.ref b1), .null, .null, .null, .null, .null, .null, .null, .null, .null] b3 T89.heap n0 Z89 p89_2 p89_3 pv89_4 p89_1 g_b84 g_b_89 ne_b84_b_89 pv89_6 p89_5 (by first | decide | assumption | rfl | (intro _; rfl)) (by first | decide | assumption | rfl | (intro _; rfl)) (by first | decide | assumption | rfl | (intro _; rfl)) (Ins.of_exa f96 (hw _ (List.mem_of_getElem? (i := 58) rfl)))) (by rw [hml]; rfl) rfl [(.ref b3)] rfl rfl (W := 0) (Nat.le_of_eq rfl) (by decide) (by decide) (by decide) (by decide) (lenOf pd_7 rfl) (hb hby at_103) rfl fun v95 T95 L95 X95 hQ95 => ?_
      obtain ⟨rfl, Nq95, kc95, p95_0, p95_1, p95_2, p95_3, p95_4⟩ := hQ95
      have N95 := Fr.app N89 Nq95
      have Z95 : n0 ≤ T95.heap.size := Nat.le_trans Z89 kc95.1
      have pv95_2 : Fld Z T95.heap b84 "java/util/ArrayList" "size" "I" (.int (2 : Int32)) := p95_2
      have pv95_3 : Fld Z T95.heap b84 "java/util/AbstractList" "modCount" "I" (.int (2 : Int32)) := p95_3
      have pv95_4 : Arv Z T95.heap b_89 kb_89 (.object "java/lang/Object") (10 : Int32) [(.ref b1), (.ref b3), .null, .null, .null, .null, .null, .null, .null, .null] .null := p95_4
      show Ga _ _ _ _ _ _ _ _ _ _ _ [(.int (1 : Int32))]
      refine g_pop X95 hx (hb hby at_106) rfl rfl ?_
      refine g_iload X95 hx (hb hby at_107) rfl rfl ?_
      refine g_iconst X95 hx (r := (2 : Int32)) (hb hby at_109) rfl rfl ?_
      refine g_icmpN X95 hx (hb hby at_110) rfl (XT.ii_le_f (by decide : (2 : Int32) < (3 : Int32))) ?_
      refine g_aload X95 hx (hb hby at_113) rfl rfl rfl ?_
      refine g_aload X95 hx (hb hby at_115) rfl rfl rfl ?_
      have f98 : Exa Z T95.heap b6 "[B" := (((((((A6.wr W8).wr W9).wr W10).ext E84).keep kc87).keep kc89).keep kc95)
      refine g_virtual X95 hx hZ hown (hw _ (List.mem_of_getElem? (i := 28) rfl)) (hw _ (List.mem_of_getElem? (i := 29) rfl)) (notFace_of_selects (args := #[]) (mvT hZ (hw _ (List.mem_of_getElem? (i := 31) rfl)))) (hw _ (List.mem_of_getElem? (i := 31) rfl)) (hw _ (List.mem_of_getElem? (i := 30) rfl)) (hw _ (List.mem_of_getElem? (i := 4) rfl)) (hw _ (List.mem_of_getElem? (i := 32) rfl)) (by decide) (a := b84) p95_0 (rm_addn l Z a0 hw b84 (2 : Int32) b_89 kb_89 (2 : Int32) [(.ref b1), (.ref b3), .null, .null, .null, .null, .null, .null, .null, .null] b6 T95.heap n0 Z95 p95_1 pv95_2 pv95_3 p95_0 g_b84 g_b_89 ne_b84_b_89 pv95_4 p89_5 (by first | decide | assumption | rfl | (intro _; rfl)) (by first | decide | assumption | rfl | (intro _; rfl)) (by first | decide | assumption | rfl | (intro _; rfl)) (Ins.of_exa f98 (hw _ (List.mem_of_getElem? (i := 58) rfl)))) (by rw [hml]; rfl) rfl [(.ref b6)] rfl rfl (W := 0) (Nat.le_of_eq rfl) (by decide) (by decide) (by decide) (by decide) (lenOf pd_7 rfl) (hb hby at_117) rfl fun v97 T97 L97 X97 hQ97 => ?_
      obtain ⟨rfl, Nq97, kc97, p97_0, p97_1, p97_2, p97_3, p97_4⟩ := hQ97
      have N97 := Fr.app N95 Nq97
      have Z97 : n0 ≤ T97.heap.size := Nat.le_trans Z95 kc97.1
      have pv97_2 : Fld Z T97.heap b84 "java/util/ArrayList" "size" "I" (.int (3 : Int32)) := p97_2
      have pv97_3 : Fld Z T97.heap b84 "java/util/AbstractList" "modCount" "I" (.int (3 : Int32)) := p97_3
      have pv97_4 : Arv Z T97.heap b_89 kb_89 (.object "java/lang/Object") (10 : Int32) [(.ref b1), (.ref b3), (.ref b6), .null, .null, .null, .null, .null, .null, .null] .null := p97_4
      show Ga _ _ _ _ _ _ _ _ _ _ _ [(.int (1 : Int32))]
      refine g_pop X97 hx (hb hby at_120) rfl rfl ?_
      have f100 : Arv Z T97.heap b1 ka1 .byte (1 : Int32) [(.int (p0.toInt8.toInt32))] (.int (0 : Int32)) := (((f92.keep kc89 (ninS ne_b1_b84 nin0)).keep kc95 (ninS ne_b1_b84 (ninS ne_b1_b_89 nin0))).keep kc97 (ninS ne_b1_b84 (ninS ne_b1_b_89 nin0)))
      have f101 : Arv Z T97.heap b3 ka3 .byte (2 : Int32) [(.int (p1.toInt8.toInt32)), (.int ((p1 >>> ((8 : Int32) &&& 31)).toInt8.toInt32))] (.int (0 : Int32)) := (((f93.keep kc89 (ninS ne_b3_b84 nin0)).keep kc95 (ninS ne_b3_b84 (ninS ne_b3_b_89 nin0))).keep kc97 (ninS ne_b3_b84 (ninS ne_b3_b_89 nin0)))
      have f102 : Arv Z T97.heap b6 ka6 .byte (3 : Int32) [(.int (p2.toInt8.toInt32)), (.int ((p2 >>> ((8 : Int32) &&& 31)).toInt8.toInt32)), (.int ((p2 >>> ((16 : Int32) &&& 31)).toInt8.toInt32))] (.int (0 : Int32)) := (((f94.keep kc89 (ninS ne_b6_b84 nin0)).keep kc95 (ninS ne_b6_b84 (ninS ne_b6_b_89 nin0))).keep kc97 (ninS ne_b6_b84 (ninS ne_b6_b_89 nin0)))
      refine g_new X97 hx hZ hown (hw _ (List.mem_of_getElem? (i := 59) rfl)) (hw _ (List.mem_of_getElem? (i := 60) rfl)) (hw _ (List.mem_of_getElem? (i := 61) rfl)) rfl (hb hby at_121) rfl (by decide) (by decide) fun T99 h99 b99 X99 e99 q99 E99 A99 D99 => ?_
      have ne_b1_b99 : b1 ≠ b99 := own_ne f100.lt q99
      have ne_b3_b99 : b3 ≠ b99 := own_ne f101.lt q99
      have ne_b6_b99 : b6 ≠ b99 := own_ne f102.lt q99
      have ne_b84_b99 : b84 ≠ b99 := own_ne p97_0.lt q99
      have ne_b_89_b99 : b_89 ≠ b99 := own_ne pv97_4.lt q99
      have g_b99 : n0 ≤ b99 := Nat.le_trans Z97 (Nat.le_of_eq q99.symm)
      have Z99 : n0 ≤ h99.size := Nat.le_trans Z97 E99.1
      have F99_words : Fld Z h99 b99 "com/example/covering/covering/server/Request" "words" "Ljava/util/List;" .null := D99 (Or.inr (hw _ (List.mem_of_getElem? (i := 67) rfl))) (ty := (.object "java/util/List")) (by decide)
      refine g_dup X99 hx (hb hby at_124) rfl rfl ?_
      refine g_aload X99 hx (hb hby at_125) rfl rfl rfl ?_
      refine g_special X99 hx hZ hown rfl (hw _ (List.mem_of_getElem? (i := 62) rfl)) (hw _ (List.mem_of_getElem? (i := 63) rfl)) (hw _ (List.mem_of_getElem? (i := 61) rfl)) (hw _ (List.mem_of_getElem? (i := 64) rfl)) (by decide) (a := b99) (rm_rqini l Z a0 hw b99 b84 h99 n0 Z99 F99_words A99 g_b99) (by rw [hml]; rfl) e99 [(.ref b84)] rfl rfl (W := 1) (Nat.le_of_eq rfl) (by decide) (by decide) (by decide) (by decide) (lenOf pd_8 rfl) (hb hby at_127) rfl fun v103 T103 L103 X103 hQ103 => ?_
      obtain ⟨rfl, Nq103, kc103, p103_0, p103_1⟩ := hQ103
      have N103 := Fr.app N97 Nq103
      have Z103 : n0 ≤ T103.heap.size := Nat.le_trans Z99 kc103.1
      show Ga _ _ _ _ _ _ _ _ _ _ _ [(.ref b99)]
      refine g_astore X103 hx (Ls' := #[.val (.int p0), .val (.int p1), .val (.int p2), .val (.int p3), .val (.ref b1), .val (.ref b3), .val (.ref b6), .val (.int (3 : Int32)), .val (.int (0 : Int32)), .val (.ref b84), .val (.ref b99), .unset]) (hb hby at_130) rfl rfl rfl ?_
      refine g_aload X103 hx (hb hby at_132) rfl rfl rfl ?_
      refine g_iload X103 hx (hb hby at_134) rfl rfl ?_
      have f105 : Fld Z T103.heap b84 "java/util/ArrayList" "size" "I" (.int (3 : Int32)) := ((pv97_2.ext E99).keep kc103 (ninS ne_b84_b99 nin0))
      have f106 : Fld Z T103.heap b84 "java/util/ArrayList" "elementData" "[Ljava/lang/Object;" (.ref b_89) := ((p97_1.ext E99).keep kc103 (ninS ne_b84_b99 nin0))
      have f107 : Arv Z T103.heap b_89 kb_89 (.object "java/lang/Object") (10 : Int32) [(.ref b1), (.ref b3), (.ref b6), .null, .null, .null, .null, .null, .null, .null] .null := ((pv97_4.ext E99).keep kc103 (ninS ne_b_89_b99 nin0))
      have f108 : Exa Z T103.heap b84 "java/util/ArrayList" := ((p97_0.ext E99).keep kc103)
      have f109 : Exa Z T103.heap b1 "[B" := (((((f91.keep kc89).keep kc95).keep kc97).ext E99).keep kc103)
      refine g_virtual X103 hx hZ hown (hw _ (List.mem_of_getElem? (i := 68) rfl)) (hw _ (List.mem_of_getElem? (i := 69) rfl)) (notFace_of_selects (args := #[]) (mvT hZ (hw _ (List.mem_of_getElem? (i := 71) rfl)))) (hw _ (List.mem_of_getElem? (i := 71) rfl)) (hw _ (List.mem_of_getElem? (i := 70) rfl)) (hw _ (List.mem_of_getElem? (i := 61) rfl)) (hw _ (List.mem_of_getElem? (i := 72) rfl)) (by decide) (a := b99) p103_0 (rm_word l Z a0 hw b99 b84 b_89 kb_89 (3 : Int32) [(.ref b1), (.ref b3), (.ref b6), .null, .null, .null, .null, .null, .null, .null] (0 : Int32) b1 T103.heap n0 Z103 p103_1 f105 f106 f107 f108 (by first | decide | assumption | rfl | (intro _; rfl)) (by first | decide | assumption | rfl | (intro _; rfl)) (by first | decide | assumption | rfl | (intro _; rfl)) (by first | decide | assumption | rfl | (intro _; rfl)) (Ins.self f109)) (by rw [hml]; rfl) rfl [(.int (0 : Int32))] rfl rfl (W := 0) (Nat.le_of_eq rfl) (by decide) (by decide) (by decide) (by decide) (lenOf pd_9 rfl) (hb hby at_136) rfl fun v104 T104 L104 X104 hQ104 => ?_
      obtain ⟨rfl, Nq104, eh104⟩ := hQ104
      have N104 := Fr.app N103 Nq104
      show Ga _ _ _ _ _ _ _ _ _ _ _ [(.ref b1)]
      refine g_astore X104 hx (Ls' := #[.val (.int p0), .val (.int p1), .val (.int p2), .val (.int p3), .val (.ref b1), .val (.ref b3), .val (.ref b6), .val (.int (3 : Int32)), .val (.int (0 : Int32)), .val (.ref b84), .val (.ref b99), .val (.ref b1)]) (hb hby at_139) rfl rfl rfl ?_
      refine g_aload X104 hx (hb hby at_141) rfl rfl rfl ?_
      refine g_ifnonnullY X104 hx (q := 148) (hb hby at_143) (by decide) (by decide) ?_
      refine g_iload X104 hx (hb hby at_148) rfl rfl ?_
      refine g_ifN X104 hx (hb hby at_150) rfl (XT.i0_ne_f (by decide : (0 : Int32) = (0 : Int32))) ?_
      refine g_aload X104 hx (hb hby at_153) rfl rfl rfl ?_
      have f110 : Arv Z T103.heap b1 ka1 .byte (1 : Int32) [(.int (p0.toInt8.toInt32))] (.int (0 : Int32)) := ((f100.ext E99).keep kc103 (ninS ne_b1_b99 nin0))
      refine g_len X104 hx hZ eh104 f110 (hb hby at_155) rfl ?_
      refine g_iconst X104 hx (r := (1 : Int32)) (hb hby at_156) rfl rfl ?_
      refine g_icmpN X104 hx (hb hby at_157) rfl (XT.ii_ne_f (by decide : (1 : Int32) = (1 : Int32))) ?_
      refine g_aload X104 hx (hb hby at_160) rfl rfl rfl ?_
      refine g_iconst X104 hx (r := (0 : Int32)) (hb hby at_162) rfl rfl ?_
      refine g_baload X104 hx hZ eh104 f110 (v := (.int (p0.toInt8.toInt32))) ⟨by decide, by decide⟩ rfl (hb hby at_163) rfl ?_
      refine g_iloadN X104 hx (hb hby at_164) rfl rfl ?_
      refine g_i2b X104 hx (hb hby at_165) rfl rfl ?_
      refine g_icmpN X104 hx (hb hby at_166) rfl (XT.ii_ne_f rfl) ?_
      refine g_iconst X104 hx (r := (1 : Int32)) (hb hby at_169) rfl rfl ?_
      refine g_goto X104 hx (q := 174) (hb hby at_170) (by decide) (by decide) ?_
      exact g_retN X104 hx (t := .boolean) (r := (1 : Int32)) hret (by simp) hlk (hb hby at_174) rfl (by decide) (by decide) (by rw [eh104]; exact ⟨rfl, N104⟩)
    · skip
      have f112 : Arv Z h10 b1 ka1 .byte (1 : Int32) [(.int (p0.toInt8.toInt32))] (.int (0 : Int32)) := ((((f7.ext E6).other W8 ne_b1_b6).other W9 ne_b1_b6).other W10 ne_b1_b6)
      have f113 : Arv Z h10 b3 ka3 .byte (2 : Int32) [(.int (p1.toInt8.toInt32)), (.int ((p1 >>> ((8 : Int32) &&& 31)).toInt8.toInt32))] (.int (0 : Int32)) := ((((Vn5.ext E6).other W8 ne_b3_b6).other W9 ne_b3_b6).other W10 ne_b3_b6)
      refine g_new X10 hx hZ hown (hw _ (List.mem_of_getElem? (i := 2) rfl)) (hw _ (List.mem_of_getElem? (i := 3) rfl)) (hw _ (List.mem_of_getElem? (i := 4) rfl)) e10 (hb hby at_76) rfl (by decide) (by decide) fun T111 h111 b111 X111 e111 q111 E111 A111 D111 => ?_
      have ne_b1_b111 : b1 ≠ b111 := own_ne f112.lt q111
      have ne_b3_b111 : b3 ≠ b111 := own_ne f113.lt q111
      have ne_b6_b111 : b6 ≠ b111 := own_ne Vn10.lt q111
      have g_b111 : n0 ≤ b111 := Nat.le_trans Z10 (Nat.le_of_eq q111.symm)
      have Z111 : n0 ≤ h111.size := Nat.le_trans Z10 E111.1
      have F111_modCount : Fld Z h111 b111 "java/util/AbstractList" "modCount" "I" (.int (0 : Int32)) := D111 (Or.inl (hw _ (List.mem_of_getElem? (i := 24) rfl))) (ty := .int) (by decide)
      have F111_elementData : Fld Z h111 b111 "java/util/ArrayList" "elementData" "[Ljava/lang/Object;" .null := D111 (Or.inl (hw _ (List.mem_of_getElem? (i := 27) rfl))) (ty := (.array (.object "java/lang/Object"))) (by decide)
      have F111_size : Fld Z h111 b111 "java/util/ArrayList" "size" "I" (.int (0 : Int32)) := D111 (Or.inl (hw _ (List.mem_of_getElem? (i := 36) rfl))) (ty := .int) (by decide)
      refine g_dup X111 hx (hb hby at_79) rfl rfl ?_
      have f115 : Old Z n0 h111 := ((((((((((old0.ext E1).wr W2 g_b1).ext E3).wr W4 g_b3).wr W5 g_b3).ext E6).wr W8 g_b6).wr W9 g_b6).wr W10 g_b6).ext E111)
      refine g_special X111 hx hZ hown rfl (hw _ (List.mem_of_getElem? (i := 5) rfl)) (hw _ (List.mem_of_getElem? (i := 6) rfl)) (hw _ (List.mem_of_getElem? (i := 4) rfl)) (hw _ (List.mem_of_getElem? (i := 7) rfl)) (by decide) (a := b111) (rm_alini l Z a0 hw b111 d0 h111 n0 Z111 F111_elementData F111_size F111_modCount A111 g_b111 f115 S0_DEFAULTCAPACITY_EMPTY_ELEMENTDATA) (by rw [hml]; rfl) e111 [] rfl rfl (W := 1) (Nat.le_of_eq rfl) (by decide) (by decide) (by decide) (by decide) (lenOf pd_0 rfl) (hb hby at_80) rfl fun v114 T114 L114 X114 hQ114 => ?_
      obtain ⟨rfl, Nq114, kc114, p114_0, p114_1, p114_2, p114_3⟩ := hQ114
      have N114 := Fr.app N10 Nq114
      have Z114 : n0 ≤ T114.heap.size := Nat.le_trans Z111 kc114.1
      show Ga _ _ _ _ _ _ _ _ _ _ _ [(.ref b111)]
      refine g_astore X114 hx (Ls' := #[.val (.int p0), .val (.int p1), .val (.int p2), .val (.int p3), .val (.ref b1), .val (.ref b3), .val (.ref b6), .val (.int (3 : Int32)), .val (.int (1 : Int32)), .val (.ref b111), .unset, .unset]) (hb hby at_83) rfl rfl rfl ?_
      refine g_aload X114 hx (hb hby at_85) rfl rfl rfl ?_
      refine g_aload X114 hx (hb hby at_87) rfl rfl rfl ?_
      have f117 : Old Z n0 T114.heap := (f115.keep kc114 (allS g_b111 all0))
      have f118 : Exa Z T114.heap b1 "[B" := ((((((((((A1.wr W2).ext E3).wr W4).wr W5).ext E6).wr W8).wr W9).wr W10).ext E111).keep kc114)
      refine g_virtual X114 hx hZ hown (hw _ (List.mem_of_getElem? (i := 28) rfl)) (hw _ (List.mem_of_getElem? (i := 29) rfl)) (notFace_of_selects (args := #[]) (mvT hZ (hw _ (List.mem_of_getElem? (i := 31) rfl)))) (hw _ (List.mem_of_getElem? (i := 31) rfl)) (hw _ (List.mem_of_getElem? (i := 30) rfl)) (hw _ (List.mem_of_getElem? (i := 4) rfl)) (hw _ (List.mem_of_getElem? (i := 32) rfl)) (by decide) (a := b111) p114_0 (rm_addf l Z a0 hw b111 (0 : Int32) d0 kd b1 T114.heap n0 Z114 p114_1 p114_2 p114_3 p114_0 g_b111 f117 S0_DEFAULTCAPACITY_EMPTY_ELEMENTDATA V0_d0 (Ins.of_exa f118 (hw _ (List.mem_of_getElem? (i := 58) rfl)))) (by rw [hml]; rfl) rfl [(.ref b1)] rfl rfl (W := 0) (Nat.le_of_eq rfl) (by decide) (by decide) (by decide) (by decide) (lenOf pd_7 rfl) (hb hby at_89) rfl fun v116 T116 L116 X116 hQ116 => ?_
      obtain ⟨b_116, kb_116, rfl, Nq116, kc116, p116_0, p116_1, p116_2, p116_3, p116_4, p116_5, p116_6⟩ := hQ116
      have N116 := Fr.app N114 Nq116
      have f119 : Arv Z T114.heap b1 ka1 .byte (1 : Int32) [(.int (p0.toInt8.toInt32))] (.int (0 : Int32)) := ((f112.ext E111).keep kc114 (ninS ne_b1_b111 nin0))
      have f120 : Arv Z T114.heap b3 ka3 .byte (2 : Int32) [(.int (p1.toInt8.toInt32)), (.int ((p1 >>> ((8 : Int32) &&& 31)).toInt8.toInt32))] (.int (0 : Int32)) := ((f113.ext E111).keep kc114 (ninS ne_b3_b111 nin0))
      have f121 : Arv Z T114.heap b6 ka6 .byte (3 : Int32) [(.int (p2.toInt8.toInt32)), (.int ((p2 >>> ((8 : Int32) &&& 31)).toInt8.toInt32)), (.int ((p2 >>> ((16 : Int32) &&& 31)).toInt8.toInt32))] (.int (0 : Int32)) := ((Vn10.ext E111).keep kc114 (ninS ne_b6_b111 nin0))
      have ne_b1_b_116 : b1 ≠ b_116 := own_neK f119.lt p116_0
      have ne_b111_b_116 : b111 ≠ b_116 := own_neK p114_0.lt p116_0
      have ne_b3_b_116 : b3 ≠ b_116 := own_neK f120.lt p116_0
      have ne_b6_b_116 : b6 ≠ b_116 := own_neK f121.lt p116_0
      have g_b_116 : n0 ≤ b_116 := Nat.le_trans Z114 p116_0
      have Z116 : n0 ≤ T116.heap.size := Nat.le_trans Z114 kc116.1
      have pv116_4 : Fld Z T116.heap b111 "java/util/AbstractList" "modCount" "I" (.int (1 : Int32)) := p116_4
      have pv116_6 : Arv Z T116.heap b_116 kb_116 (.object "java/lang/Object") (10 : Int32) [(.ref b1), .null, .null, .null, .null, .null, .null, .null, .null, .null] .null := p116_6
      show Ga _ _ _ _ _ _ _ _ _ _ _ [(.int (1 : Int32))]
      refine g_pop X116 hx (hb hby at_92) rfl rfl ?_
      refine g_iload X116 hx (hb hby at_93) rfl rfl ?_
      refine g_iconst X116 hx (r := (1 : Int32)) (hb hby at_95) rfl rfl ?_
      refine g_icmpN X116 hx (hb hby at_96) rfl (XT.ii_le_f (by decide : (1 : Int32) < (3 : Int32))) ?_
      refine g_aload X116 hx (hb hby at_99) rfl rfl rfl ?_
      refine g_aload X116 hx (hb hby at_101) rfl rfl rfl ?_
      have f123 : Exa Z T116.heap b3 "[B" := (((((((((A3.wr W4).wr W5).ext E6).wr W8).wr W9).wr W10).ext E111).keep kc114).keep kc116)
      refine g_virtual X116 hx hZ hown (hw _ (List.mem_of_getElem? (i := 28) rfl)) (hw _ (List.mem_of_getElem? (i := 29) rfl)) (notFace_of_selects (args := #[]) (mvT hZ (hw _ (List.mem_of_getElem? (i := 31) rfl)))) (hw _ (List.mem_of_getElem? (i := 31) rfl)) (hw _ (List.mem_of_getElem? (i := 30) rfl)) (hw _ (List.mem_of_getElem? (i := 4) rfl)) (hw _ (List.mem_of_getElem? (i := 32) rfl)) (by decide) (a := b111) p116_1 (rm_addn l Z a0 hw b111 (1 : Int32) b_116 kb_116 (1 : Int32) [(.ref b1), .null, .null, .null, .null, .null, .null, .null, .null, .null] b3 T116.heap n0 Z116 p116_2 p116_3 pv116_4 p116_1 g_b111 g_b_116 ne_b111_b_116 pv116_6 p116_5 (by first | decide | assumption | rfl | (intro _; rfl)) (by first | decide | assumption | rfl | (intro _; rfl)) (by first | decide | assumption | rfl | (intro _; rfl)) (Ins.of_exa f123 (hw _ (List.mem_of_getElem? (i := 58) rfl)))) (by rw [hml]; rfl) rfl [(.ref b3)] rfl rfl (W := 0) (Nat.le_of_eq rfl) (by decide) (by decide) (by decide) (by decide) (lenOf pd_7 rfl) (hb hby at_103) rfl fun v122 T122 L122 X122 hQ122 => ?_
      obtain ⟨rfl, Nq122, kc122, p122_0, p122_1, p122_2, p122_3, p122_4⟩ := hQ122
      have N122 := Fr.app N116 Nq122
      have Z122 : n0 ≤ T122.heap.size := Nat.le_trans Z116 kc122.1
      have pv122_2 : Fld Z T122.heap b111 "java/util/ArrayList" "size" "I" (.int (2 : Int32)) := p122_2
      have pv122_3 : Fld Z T122.heap b111 "java/util/AbstractList" "modCount" "I" (.int (2 : Int32)) := p122_3
      have pv122_4 : Arv Z T122.heap b_116 kb_116 (.object "java/lang/Object") (10 : Int32) [(.ref b1), (.ref b3), .null, .null, .null, .null, .null, .null, .null, .null] .null := p122_4
      show Ga _ _ _ _ _ _ _ _ _ _ _ [(.int (1 : Int32))]
      refine g_pop X122 hx (hb hby at_106) rfl rfl ?_
      refine g_iload X122 hx (hb hby at_107) rfl rfl ?_
      refine g_iconst X122 hx (r := (2 : Int32)) (hb hby at_109) rfl rfl ?_
      refine g_icmpN X122 hx (hb hby at_110) rfl (XT.ii_le_f (by decide : (2 : Int32) < (3 : Int32))) ?_
      refine g_aload X122 hx (hb hby at_113) rfl rfl rfl ?_
      refine g_aload X122 hx (hb hby at_115) rfl rfl rfl ?_
      have f125 : Exa Z T122.heap b6 "[B" := (((((((A6.wr W8).wr W9).wr W10).ext E111).keep kc114).keep kc116).keep kc122)
      refine g_virtual X122 hx hZ hown (hw _ (List.mem_of_getElem? (i := 28) rfl)) (hw _ (List.mem_of_getElem? (i := 29) rfl)) (notFace_of_selects (args := #[]) (mvT hZ (hw _ (List.mem_of_getElem? (i := 31) rfl)))) (hw _ (List.mem_of_getElem? (i := 31) rfl)) (hw _ (List.mem_of_getElem? (i := 30) rfl)) (hw _ (List.mem_of_getElem? (i := 4) rfl)) (hw _ (List.mem_of_getElem? (i := 32) rfl)) (by decide) (a := b111) p122_0 (rm_addn l Z a0 hw b111 (2 : Int32) b_116 kb_116 (2 : Int32) [(.ref b1), (.ref b3), .null, .null, .null, .null, .null, .null, .null, .null] b6 T122.heap n0 Z122 p122_1 pv122_2 pv122_3 p122_0 g_b111 g_b_116 ne_b111_b_116 pv122_4 p116_5 (by first | decide | assumption | rfl | (intro _; rfl)) (by first | decide | assumption | rfl | (intro _; rfl)) (by first | decide | assumption | rfl | (intro _; rfl)) (Ins.of_exa f125 (hw _ (List.mem_of_getElem? (i := 58) rfl)))) (by rw [hml]; rfl) rfl [(.ref b6)] rfl rfl (W := 0) (Nat.le_of_eq rfl) (by decide) (by decide) (by decide) (by decide) (lenOf pd_7 rfl) (hb hby at_117) rfl fun v124 T124 L124 X124 hQ124 => ?_
      obtain ⟨rfl, Nq124, kc124, p124_0, p124_1, p124_2, p124_3, p124_4⟩ := hQ124
      have N124 := Fr.app N122 Nq124
      have Z124 : n0 ≤ T124.heap.size := Nat.le_trans Z122 kc124.1
      have pv124_2 : Fld Z T124.heap b111 "java/util/ArrayList" "size" "I" (.int (3 : Int32)) := p124_2
      have pv124_3 : Fld Z T124.heap b111 "java/util/AbstractList" "modCount" "I" (.int (3 : Int32)) := p124_3
      have pv124_4 : Arv Z T124.heap b_116 kb_116 (.object "java/lang/Object") (10 : Int32) [(.ref b1), (.ref b3), (.ref b6), .null, .null, .null, .null, .null, .null, .null] .null := p124_4
      show Ga _ _ _ _ _ _ _ _ _ _ _ [(.int (1 : Int32))]
      refine g_pop X124 hx (hb hby at_120) rfl rfl ?_
      have f127 : Arv Z T124.heap b1 ka1 .byte (1 : Int32) [(.int (p0.toInt8.toInt32))] (.int (0 : Int32)) := (((f119.keep kc116 (ninS ne_b1_b111 nin0)).keep kc122 (ninS ne_b1_b111 (ninS ne_b1_b_116 nin0))).keep kc124 (ninS ne_b1_b111 (ninS ne_b1_b_116 nin0)))
      have f128 : Arv Z T124.heap b3 ka3 .byte (2 : Int32) [(.int (p1.toInt8.toInt32)), (.int ((p1 >>> ((8 : Int32) &&& 31)).toInt8.toInt32))] (.int (0 : Int32)) := (((f120.keep kc116 (ninS ne_b3_b111 nin0)).keep kc122 (ninS ne_b3_b111 (ninS ne_b3_b_116 nin0))).keep kc124 (ninS ne_b3_b111 (ninS ne_b3_b_116 nin0)))
      have f129 : Arv Z T124.heap b6 ka6 .byte (3 : Int32) [(.int (p2.toInt8.toInt32)), (.int ((p2 >>> ((8 : Int32) &&& 31)).toInt8.toInt32)), (.int ((p2 >>> ((16 : Int32) &&& 31)).toInt8.toInt32))] (.int (0 : Int32)) := (((f121.keep kc116 (ninS ne_b6_b111 nin0)).keep kc122 (ninS ne_b6_b111 (ninS ne_b6_b_116 nin0))).keep kc124 (ninS ne_b6_b111 (ninS ne_b6_b_116 nin0)))
      refine g_new X124 hx hZ hown (hw _ (List.mem_of_getElem? (i := 59) rfl)) (hw _ (List.mem_of_getElem? (i := 60) rfl)) (hw _ (List.mem_of_getElem? (i := 61) rfl)) rfl (hb hby at_121) rfl (by decide) (by decide) fun T126 h126 b126 X126 e126 q126 E126 A126 D126 => ?_
      have ne_b1_b126 : b1 ≠ b126 := own_ne f127.lt q126
      have ne_b111_b126 : b111 ≠ b126 := own_ne p124_0.lt q126
      have ne_b3_b126 : b3 ≠ b126 := own_ne f128.lt q126
      have ne_b6_b126 : b6 ≠ b126 := own_ne f129.lt q126
      have ne_b_116_b126 : b_116 ≠ b126 := own_ne pv124_4.lt q126
      have g_b126 : n0 ≤ b126 := Nat.le_trans Z124 (Nat.le_of_eq q126.symm)
      have Z126 : n0 ≤ h126.size := Nat.le_trans Z124 E126.1
      have F126_words : Fld Z h126 b126 "com/example/covering/covering/server/Request" "words" "Ljava/util/List;" .null := D126 (Or.inr (hw _ (List.mem_of_getElem? (i := 67) rfl))) (ty := (.object "java/util/List")) (by decide)
      refine g_dup X126 hx (hb hby at_124) rfl rfl ?_
      refine g_aload X126 hx (hb hby at_125) rfl rfl rfl ?_
      refine g_special X126 hx hZ hown rfl (hw _ (List.mem_of_getElem? (i := 62) rfl)) (hw _ (List.mem_of_getElem? (i := 63) rfl)) (hw _ (List.mem_of_getElem? (i := 61) rfl)) (hw _ (List.mem_of_getElem? (i := 64) rfl)) (by decide) (a := b126) (rm_rqini l Z a0 hw b126 b111 h126 n0 Z126 F126_words A126 g_b126) (by rw [hml]; rfl) e126 [(.ref b111)] rfl rfl (W := 1) (Nat.le_of_eq rfl) (by decide) (by decide) (by decide) (by decide) (lenOf pd_8 rfl) (hb hby at_127) rfl fun v130 T130 L130 X130 hQ130 => ?_
      obtain ⟨rfl, Nq130, kc130, p130_0, p130_1⟩ := hQ130
      have N130 := Fr.app N124 Nq130
      have Z130 : n0 ≤ T130.heap.size := Nat.le_trans Z126 kc130.1
      show Ga _ _ _ _ _ _ _ _ _ _ _ [(.ref b126)]
      refine g_astore X130 hx (Ls' := #[.val (.int p0), .val (.int p1), .val (.int p2), .val (.int p3), .val (.ref b1), .val (.ref b3), .val (.ref b6), .val (.int (3 : Int32)), .val (.int (1 : Int32)), .val (.ref b111), .val (.ref b126), .unset]) (hb hby at_130) rfl rfl rfl ?_
      refine g_aload X130 hx (hb hby at_132) rfl rfl rfl ?_
      refine g_iload X130 hx (hb hby at_134) rfl rfl ?_
      have f132 : Fld Z T130.heap b111 "java/util/ArrayList" "size" "I" (.int (3 : Int32)) := ((pv124_2.ext E126).keep kc130 (ninS ne_b111_b126 nin0))
      have f133 : Fld Z T130.heap b111 "java/util/ArrayList" "elementData" "[Ljava/lang/Object;" (.ref b_116) := ((p124_1.ext E126).keep kc130 (ninS ne_b111_b126 nin0))
      have f134 : Arv Z T130.heap b_116 kb_116 (.object "java/lang/Object") (10 : Int32) [(.ref b1), (.ref b3), (.ref b6), .null, .null, .null, .null, .null, .null, .null] .null := ((pv124_4.ext E126).keep kc130 (ninS ne_b_116_b126 nin0))
      have f135 : Exa Z T130.heap b111 "java/util/ArrayList" := ((p124_0.ext E126).keep kc130)
      have f136 : Exa Z T130.heap b3 "[B" := ((((f123.keep kc122).keep kc124).ext E126).keep kc130)
      refine g_virtual X130 hx hZ hown (hw _ (List.mem_of_getElem? (i := 68) rfl)) (hw _ (List.mem_of_getElem? (i := 69) rfl)) (notFace_of_selects (args := #[]) (mvT hZ (hw _ (List.mem_of_getElem? (i := 71) rfl)))) (hw _ (List.mem_of_getElem? (i := 71) rfl)) (hw _ (List.mem_of_getElem? (i := 70) rfl)) (hw _ (List.mem_of_getElem? (i := 61) rfl)) (hw _ (List.mem_of_getElem? (i := 72) rfl)) (by decide) (a := b126) p130_0 (rm_word l Z a0 hw b126 b111 b_116 kb_116 (3 : Int32) [(.ref b1), (.ref b3), (.ref b6), .null, .null, .null, .null, .null, .null, .null] (1 : Int32) b3 T130.heap n0 Z130 p130_1 f132 f133 f134 f135 (by first | decide | assumption | rfl | (intro _; rfl)) (by first | decide | assumption | rfl | (intro _; rfl)) (by first | decide | assumption | rfl | (intro _; rfl)) (by first | decide | assumption | rfl | (intro _; rfl)) (Ins.self f136)) (by rw [hml]; rfl) rfl [(.int (1 : Int32))] rfl rfl (W := 0) (Nat.le_of_eq rfl) (by decide) (by decide) (by decide) (by decide) (lenOf pd_9 rfl) (hb hby at_136) rfl fun v131 T131 L131 X131 hQ131 => ?_
      obtain ⟨rfl, Nq131, eh131⟩ := hQ131
      have N131 := Fr.app N130 Nq131
      show Ga _ _ _ _ _ _ _ _ _ _ _ [(.ref b3)]
      refine g_astore X131 hx (Ls' := #[.val (.int p0), .val (.int p1), .val (.int p2), .val (.int p3), .val (.ref b1), .val (.ref b3), .val (.ref b6), .val (.int (3 : Int32)), .val (.int (1 : Int32)), .val (.ref b111), .val (.ref b126), .val (.ref b3)]) (hb hby at_139) rfl rfl rfl ?_
      refine g_aload X131 hx (hb hby at_141) rfl rfl rfl ?_
      refine g_ifnonnullY X131 hx (q := 148) (hb hby at_143) (by decide) (by decide) ?_
      refine g_iload X131 hx (hb hby at_148) rfl rfl ?_
      refine g_ifY X131 hx (q := 175) (hb hby at_150) (XT.i0_ne_t (by decide : ¬ (1 : Int32) = (0 : Int32))) (by decide) (by decide) ?_
      refine g_iload X131 hx (hb hby at_175) rfl rfl ?_
      refine g_iconst X131 hx (r := (1 : Int32)) (hb hby at_177) rfl rfl ?_
      refine g_icmpN X131 hx (hb hby at_178) rfl (XT.ii_ne_f (by decide : (1 : Int32) = (1 : Int32))) ?_
      refine g_aload X131 hx (hb hby at_181) rfl rfl rfl ?_
      have f137 : Arv Z T130.heap b3 ka3 .byte (2 : Int32) [(.int (p1.toInt8.toInt32)), (.int ((p1 >>> ((8 : Int32) &&& 31)).toInt8.toInt32))] (.int (0 : Int32)) := ((f128.ext E126).keep kc130 (ninS ne_b3_b126 nin0))
      refine g_len X131 hx hZ eh131 f137 (hb hby at_183) rfl ?_
      refine g_iconst X131 hx (r := (2 : Int32)) (hb hby at_184) rfl rfl ?_
      refine g_icmpN X131 hx (hb hby at_185) rfl (XT.ii_ne_f (by decide : (2 : Int32) = (2 : Int32))) ?_
      refine g_aload X131 hx (hb hby at_188) rfl rfl rfl ?_
      refine g_iconst X131 hx (r := (0 : Int32)) (hb hby at_190) rfl rfl ?_
      refine g_baload X131 hx hZ eh131 f137 (v := (.int (p1.toInt8.toInt32))) ⟨by decide, by decide⟩ rfl (hb hby at_191) rfl ?_
      refine g_iloadN X131 hx (hb hby at_192) rfl rfl ?_
      refine g_i2b X131 hx (hb hby at_193) rfl rfl ?_
      refine g_icmpN X131 hx (hb hby at_194) rfl (XT.ii_ne_f rfl) ?_
      refine g_aload X131 hx (hb hby at_197) rfl rfl rfl ?_
      refine g_iconst X131 hx (r := (1 : Int32)) (hb hby at_199) rfl rfl ?_
      refine g_baload X131 hx hZ eh131 f137 (v := (.int ((p1 >>> ((8 : Int32) &&& 31)).toInt8.toInt32))) ⟨by decide, by decide⟩ rfl (hb hby at_200) rfl ?_
      refine g_iloadN X131 hx (hb hby at_201) rfl rfl ?_
      refine g_bipush X131 hx (r := (8 : Int32)) (hb hby at_202) rfl rfl ?_
      refine g_ishr X131 hx (hb hby at_204) rfl rfl ?_
      refine g_i2b X131 hx (hb hby at_205) rfl rfl ?_
      refine g_icmpN X131 hx (hb hby at_206) rfl (XT.ii_ne_f rfl) ?_
      refine g_iconst X131 hx (r := (1 : Int32)) (hb hby at_209) rfl rfl ?_
      refine g_goto X131 hx (q := 214) (hb hby at_210) (by decide) (by decide) ?_
      exact g_retN X131 hx (t := .boolean) (r := (1 : Int32)) hret (by simp) hlk (hb hby at_214) rfl (by decide) (by decide) (by rw [eh131]; exact ⟨rfl, N131⟩)
    · skip
      have f139 : Arv Z h10 b1 ka1 .byte (1 : Int32) [(.int (p0.toInt8.toInt32))] (.int (0 : Int32)) := ((((f7.ext E6).other W8 ne_b1_b6).other W9 ne_b1_b6).other W10 ne_b1_b6)
      have f140 : Arv Z h10 b3 ka3 .byte (2 : Int32) [(.int (p1.toInt8.toInt32)), (.int ((p1 >>> ((8 : Int32) &&& 31)).toInt8.toInt32))] (.int (0 : Int32)) := ((((Vn5.ext E6).other W8 ne_b3_b6).other W9 ne_b3_b6).other W10 ne_b3_b6)
      refine g_new X10 hx hZ hown (hw _ (List.mem_of_getElem? (i := 2) rfl)) (hw _ (List.mem_of_getElem? (i := 3) rfl)) (hw _ (List.mem_of_getElem? (i := 4) rfl)) e10 (hb hby at_76) rfl (by decide) (by decide) fun T138 h138 b138 X138 e138 q138 E138 A138 D138 => ?_
      have ne_b1_b138 : b1 ≠ b138 := own_ne f139.lt q138
      have ne_b3_b138 : b3 ≠ b138 := own_ne f140.lt q138
      have ne_b6_b138 : b6 ≠ b138 := own_ne Vn10.lt q138
      have g_b138 : n0 ≤ b138 := Nat.le_trans Z10 (Nat.le_of_eq q138.symm)
      have Z138 : n0 ≤ h138.size := Nat.le_trans Z10 E138.1
      have F138_modCount : Fld Z h138 b138 "java/util/AbstractList" "modCount" "I" (.int (0 : Int32)) := D138 (Or.inl (hw _ (List.mem_of_getElem? (i := 24) rfl))) (ty := .int) (by decide)
      have F138_elementData : Fld Z h138 b138 "java/util/ArrayList" "elementData" "[Ljava/lang/Object;" .null := D138 (Or.inl (hw _ (List.mem_of_getElem? (i := 27) rfl))) (ty := (.array (.object "java/lang/Object"))) (by decide)
      have F138_size : Fld Z h138 b138 "java/util/ArrayList" "size" "I" (.int (0 : Int32)) := D138 (Or.inl (hw _ (List.mem_of_getElem? (i := 36) rfl))) (ty := .int) (by decide)
      refine g_dup X138 hx (hb hby at_79) rfl rfl ?_
      have f142 : Old Z n0 h138 := ((((((((((old0.ext E1).wr W2 g_b1).ext E3).wr W4 g_b3).wr W5 g_b3).ext E6).wr W8 g_b6).wr W9 g_b6).wr W10 g_b6).ext E138)
      refine g_special X138 hx hZ hown rfl (hw _ (List.mem_of_getElem? (i := 5) rfl)) (hw _ (List.mem_of_getElem? (i := 6) rfl)) (hw _ (List.mem_of_getElem? (i := 4) rfl)) (hw _ (List.mem_of_getElem? (i := 7) rfl)) (by decide) (a := b138) (rm_alini l Z a0 hw b138 d0 h138 n0 Z138 F138_elementData F138_size F138_modCount A138 g_b138 f142 S0_DEFAULTCAPACITY_EMPTY_ELEMENTDATA) (by rw [hml]; rfl) e138 [] rfl rfl (W := 1) (Nat.le_of_eq rfl) (by decide) (by decide) (by decide) (by decide) (lenOf pd_0 rfl) (hb hby at_80) rfl fun v141 T141 L141 X141 hQ141 => ?_
      obtain ⟨rfl, Nq141, kc141, p141_0, p141_1, p141_2, p141_3⟩ := hQ141
      have N141 := Fr.app N10 Nq141
      have Z141 : n0 ≤ T141.heap.size := Nat.le_trans Z138 kc141.1
      show Ga _ _ _ _ _ _ _ _ _ _ _ [(.ref b138)]
      refine g_astore X141 hx (Ls' := #[.val (.int p0), .val (.int p1), .val (.int p2), .val (.int p3), .val (.ref b1), .val (.ref b3), .val (.ref b6), .val (.int (3 : Int32)), .val (.int (2 : Int32)), .val (.ref b138), .unset, .unset]) (hb hby at_83) rfl rfl rfl ?_
      refine g_aload X141 hx (hb hby at_85) rfl rfl rfl ?_
      refine g_aload X141 hx (hb hby at_87) rfl rfl rfl ?_
      have f144 : Old Z n0 T141.heap := (f142.keep kc141 (allS g_b138 all0))
      have f145 : Exa Z T141.heap b1 "[B" := ((((((((((A1.wr W2).ext E3).wr W4).wr W5).ext E6).wr W8).wr W9).wr W10).ext E138).keep kc141)
      refine g_virtual X141 hx hZ hown (hw _ (List.mem_of_getElem? (i := 28) rfl)) (hw _ (List.mem_of_getElem? (i := 29) rfl)) (notFace_of_selects (args := #[]) (mvT hZ (hw _ (List.mem_of_getElem? (i := 31) rfl)))) (hw _ (List.mem_of_getElem? (i := 31) rfl)) (hw _ (List.mem_of_getElem? (i := 30) rfl)) (hw _ (List.mem_of_getElem? (i := 4) rfl)) (hw _ (List.mem_of_getElem? (i := 32) rfl)) (by decide) (a := b138) p141_0 (rm_addf l Z a0 hw b138 (0 : Int32) d0 kd b1 T141.heap n0 Z141 p141_1 p141_2 p141_3 p141_0 g_b138 f144 S0_DEFAULTCAPACITY_EMPTY_ELEMENTDATA V0_d0 (Ins.of_exa f145 (hw _ (List.mem_of_getElem? (i := 58) rfl)))) (by rw [hml]; rfl) rfl [(.ref b1)] rfl rfl (W := 0) (Nat.le_of_eq rfl) (by decide) (by decide) (by decide) (by decide) (lenOf pd_7 rfl) (hb hby at_89) rfl fun v143 T143 L143 X143 hQ143 => ?_
      obtain ⟨b_143, kb_143, rfl, Nq143, kc143, p143_0, p143_1, p143_2, p143_3, p143_4, p143_5, p143_6⟩ := hQ143
      have N143 := Fr.app N141 Nq143
      have f146 : Arv Z T141.heap b1 ka1 .byte (1 : Int32) [(.int (p0.toInt8.toInt32))] (.int (0 : Int32)) := ((f139.ext E138).keep kc141 (ninS ne_b1_b138 nin0))
      have f147 : Arv Z T141.heap b3 ka3 .byte (2 : Int32) [(.int (p1.toInt8.toInt32)), (.int ((p1 >>> ((8 : Int32) &&& 31)).toInt8.toInt32))] (.int (0 : Int32)) := ((f140.ext E138).keep kc141 (ninS ne_b3_b138 nin0))
      have f148 : Arv Z T141.heap b6 ka6 .byte (3 : Int32) [(.int (p2.toInt8.toInt32)), (.int ((p2 >>> ((8 : Int32) &&& 31)).toInt8.toInt32)), (.int ((p2 >>> ((16 : Int32) &&& 31)).toInt8.toInt32))] (.int (0 : Int32)) := ((Vn10.ext E138).keep kc141 (ninS ne_b6_b138 nin0))
      have ne_b1_b_143 : b1 ≠ b_143 := own_neK f146.lt p143_0
      have ne_b138_b_143 : b138 ≠ b_143 := own_neK p141_0.lt p143_0
      have ne_b3_b_143 : b3 ≠ b_143 := own_neK f147.lt p143_0
      have ne_b6_b_143 : b6 ≠ b_143 := own_neK f148.lt p143_0
      have g_b_143 : n0 ≤ b_143 := Nat.le_trans Z141 p143_0
      have Z143 : n0 ≤ T143.heap.size := Nat.le_trans Z141 kc143.1
      have pv143_4 : Fld Z T143.heap b138 "java/util/AbstractList" "modCount" "I" (.int (1 : Int32)) := p143_4
      have pv143_6 : Arv Z T143.heap b_143 kb_143 (.object "java/lang/Object") (10 : Int32) [(.ref b1), .null, .null, .null, .null, .null, .null, .null, .null, .null] .null := p143_6
      show Ga _ _ _ _ _ _ _ _ _ _ _ [(.int (1 : Int32))]
      refine g_pop X143 hx (hb hby at_92) rfl rfl ?_
      refine g_iload X143 hx (hb hby at_93) rfl rfl ?_
      refine g_iconst X143 hx (r := (1 : Int32)) (hb hby at_95) rfl rfl ?_
      refine g_icmpN X143 hx (hb hby at_96) rfl (XT.ii_le_f (by decide : (1 : Int32) < (3 : Int32))) ?_
      refine g_aload X143 hx (hb hby at_99) rfl rfl rfl ?_
      refine g_aload X143 hx (hb hby at_101) rfl rfl rfl ?_
      have f150 : Exa Z T143.heap b3 "[B" := (((((((((A3.wr W4).wr W5).ext E6).wr W8).wr W9).wr W10).ext E138).keep kc141).keep kc143)
      refine g_virtual X143 hx hZ hown (hw _ (List.mem_of_getElem? (i := 28) rfl)) (hw _ (List.mem_of_getElem? (i := 29) rfl)) (notFace_of_selects (args := #[]) (mvT hZ (hw _ (List.mem_of_getElem? (i := 31) rfl)))) (hw _ (List.mem_of_getElem? (i := 31) rfl)) (hw _ (List.mem_of_getElem? (i := 30) rfl)) (hw _ (List.mem_of_getElem? (i := 4) rfl)) (hw _ (List.mem_of_getElem? (i := 32) rfl)) (by decide) (a := b138) p143_1 (rm_addn l Z a0 hw b138 (1 : Int32) b_143 kb_143 (1 : Int32) [(.ref b1), .null, .null, .null, .null, .null, .null, .null, .null, .null] b3 T143.heap n0 Z143 p143_2 p143_3 pv143_4 p143_1 g_b138 g_b_143 ne_b138_b_143 pv143_6 p143_5 (by first | decide | assumption | rfl | (intro _; rfl)) (by first | decide | assumption | rfl | (intro _; rfl)) (by first | decide | assumption | rfl | (intro _; rfl)) (Ins.of_exa f150 (hw _ (List.mem_of_getElem? (i := 58) rfl)))) (by rw [hml]; rfl) rfl [(.ref b3)] rfl rfl (W := 0) (Nat.le_of_eq rfl) (by decide) (by decide) (by decide) (by decide) (lenOf pd_7 rfl) (hb hby at_103) rfl fun v149 T149 L149 X149 hQ149 => ?_
      obtain ⟨rfl, Nq149, kc149, p149_0, p149_1, p149_2, p149_3, p149_4⟩ := hQ149
      have N149 := Fr.app N143 Nq149
      have Z149 : n0 ≤ T149.heap.size := Nat.le_trans Z143 kc149.1
      have pv149_2 : Fld Z T149.heap b138 "java/util/ArrayList" "size" "I" (.int (2 : Int32)) := p149_2
      have pv149_3 : Fld Z T149.heap b138 "java/util/AbstractList" "modCount" "I" (.int (2 : Int32)) := p149_3
      have pv149_4 : Arv Z T149.heap b_143 kb_143 (.object "java/lang/Object") (10 : Int32) [(.ref b1), (.ref b3), .null, .null, .null, .null, .null, .null, .null, .null] .null := p149_4
      show Ga _ _ _ _ _ _ _ _ _ _ _ [(.int (1 : Int32))]
      refine g_pop X149 hx (hb hby at_106) rfl rfl ?_
      refine g_iload X149 hx (hb hby at_107) rfl rfl ?_
      refine g_iconst X149 hx (r := (2 : Int32)) (hb hby at_109) rfl rfl ?_
      refine g_icmpN X149 hx (hb hby at_110) rfl (XT.ii_le_f (by decide : (2 : Int32) < (3 : Int32))) ?_
      refine g_aload X149 hx (hb hby at_113) rfl rfl rfl ?_
      refine g_aload X149 hx (hb hby at_115) rfl rfl rfl ?_
      have f152 : Exa Z T149.heap b6 "[B" := (((((((A6.wr W8).wr W9).wr W10).ext E138).keep kc141).keep kc143).keep kc149)
      refine g_virtual X149 hx hZ hown (hw _ (List.mem_of_getElem? (i := 28) rfl)) (hw _ (List.mem_of_getElem? (i := 29) rfl)) (notFace_of_selects (args := #[]) (mvT hZ (hw _ (List.mem_of_getElem? (i := 31) rfl)))) (hw _ (List.mem_of_getElem? (i := 31) rfl)) (hw _ (List.mem_of_getElem? (i := 30) rfl)) (hw _ (List.mem_of_getElem? (i := 4) rfl)) (hw _ (List.mem_of_getElem? (i := 32) rfl)) (by decide) (a := b138) p149_0 (rm_addn l Z a0 hw b138 (2 : Int32) b_143 kb_143 (2 : Int32) [(.ref b1), (.ref b3), .null, .null, .null, .null, .null, .null, .null, .null] b6 T149.heap n0 Z149 p149_1 pv149_2 pv149_3 p149_0 g_b138 g_b_143 ne_b138_b_143 pv149_4 p143_5 (by first | decide | assumption | rfl | (intro _; rfl)) (by first | decide | assumption | rfl | (intro _; rfl)) (by first | decide | assumption | rfl | (intro _; rfl)) (Ins.of_exa f152 (hw _ (List.mem_of_getElem? (i := 58) rfl)))) (by rw [hml]; rfl) rfl [(.ref b6)] rfl rfl (W := 0) (Nat.le_of_eq rfl) (by decide) (by decide) (by decide) (by decide) (lenOf pd_7 rfl) (hb hby at_117) rfl fun v151 T151 L151 X151 hQ151 => ?_
      obtain ⟨rfl, Nq151, kc151, p151_0, p151_1, p151_2, p151_3, p151_4⟩ := hQ151
      have N151 := Fr.app N149 Nq151
      have Z151 : n0 ≤ T151.heap.size := Nat.le_trans Z149 kc151.1
      have pv151_2 : Fld Z T151.heap b138 "java/util/ArrayList" "size" "I" (.int (3 : Int32)) := p151_2
      have pv151_3 : Fld Z T151.heap b138 "java/util/AbstractList" "modCount" "I" (.int (3 : Int32)) := p151_3
      have pv151_4 : Arv Z T151.heap b_143 kb_143 (.object "java/lang/Object") (10 : Int32) [(.ref b1), (.ref b3), (.ref b6), .null, .null, .null, .null, .null, .null, .null] .null := p151_4
      show Ga _ _ _ _ _ _ _ _ _ _ _ [(.int (1 : Int32))]
      refine g_pop X151 hx (hb hby at_120) rfl rfl ?_
      have f154 : Arv Z T151.heap b1 ka1 .byte (1 : Int32) [(.int (p0.toInt8.toInt32))] (.int (0 : Int32)) := (((f146.keep kc143 (ninS ne_b1_b138 nin0)).keep kc149 (ninS ne_b1_b138 (ninS ne_b1_b_143 nin0))).keep kc151 (ninS ne_b1_b138 (ninS ne_b1_b_143 nin0)))
      have f155 : Arv Z T151.heap b3 ka3 .byte (2 : Int32) [(.int (p1.toInt8.toInt32)), (.int ((p1 >>> ((8 : Int32) &&& 31)).toInt8.toInt32))] (.int (0 : Int32)) := (((f147.keep kc143 (ninS ne_b3_b138 nin0)).keep kc149 (ninS ne_b3_b138 (ninS ne_b3_b_143 nin0))).keep kc151 (ninS ne_b3_b138 (ninS ne_b3_b_143 nin0)))
      have f156 : Arv Z T151.heap b6 ka6 .byte (3 : Int32) [(.int (p2.toInt8.toInt32)), (.int ((p2 >>> ((8 : Int32) &&& 31)).toInt8.toInt32)), (.int ((p2 >>> ((16 : Int32) &&& 31)).toInt8.toInt32))] (.int (0 : Int32)) := (((f148.keep kc143 (ninS ne_b6_b138 nin0)).keep kc149 (ninS ne_b6_b138 (ninS ne_b6_b_143 nin0))).keep kc151 (ninS ne_b6_b138 (ninS ne_b6_b_143 nin0)))
      refine g_new X151 hx hZ hown (hw _ (List.mem_of_getElem? (i := 59) rfl)) (hw _ (List.mem_of_getElem? (i := 60) rfl)) (hw _ (List.mem_of_getElem? (i := 61) rfl)) rfl (hb hby at_121) rfl (by decide) (by decide) fun T153 h153 b153 X153 e153 q153 E153 A153 D153 => ?_
      have ne_b1_b153 : b1 ≠ b153 := own_ne f154.lt q153
      have ne_b138_b153 : b138 ≠ b153 := own_ne p151_0.lt q153
      have ne_b3_b153 : b3 ≠ b153 := own_ne f155.lt q153
      have ne_b6_b153 : b6 ≠ b153 := own_ne f156.lt q153
      have ne_b_143_b153 : b_143 ≠ b153 := own_ne pv151_4.lt q153
      have g_b153 : n0 ≤ b153 := Nat.le_trans Z151 (Nat.le_of_eq q153.symm)
      have Z153 : n0 ≤ h153.size := Nat.le_trans Z151 E153.1
      have F153_words : Fld Z h153 b153 "com/example/covering/covering/server/Request" "words" "Ljava/util/List;" .null := D153 (Or.inr (hw _ (List.mem_of_getElem? (i := 67) rfl))) (ty := (.object "java/util/List")) (by decide)
      refine g_dup X153 hx (hb hby at_124) rfl rfl ?_
      refine g_aload X153 hx (hb hby at_125) rfl rfl rfl ?_
      refine g_special X153 hx hZ hown rfl (hw _ (List.mem_of_getElem? (i := 62) rfl)) (hw _ (List.mem_of_getElem? (i := 63) rfl)) (hw _ (List.mem_of_getElem? (i := 61) rfl)) (hw _ (List.mem_of_getElem? (i := 64) rfl)) (by decide) (a := b153) (rm_rqini l Z a0 hw b153 b138 h153 n0 Z153 F153_words A153 g_b153) (by rw [hml]; rfl) e153 [(.ref b138)] rfl rfl (W := 1) (Nat.le_of_eq rfl) (by decide) (by decide) (by decide) (by decide) (lenOf pd_8 rfl) (hb hby at_127) rfl fun v157 T157 L157 X157 hQ157 => ?_
      obtain ⟨rfl, Nq157, kc157, p157_0, p157_1⟩ := hQ157
      have N157 := Fr.app N151 Nq157
      have Z157 : n0 ≤ T157.heap.size := Nat.le_trans Z153 kc157.1
      show Ga _ _ _ _ _ _ _ _ _ _ _ [(.ref b153)]
      refine g_astore X157 hx (Ls' := #[.val (.int p0), .val (.int p1), .val (.int p2), .val (.int p3), .val (.ref b1), .val (.ref b3), .val (.ref b6), .val (.int (3 : Int32)), .val (.int (2 : Int32)), .val (.ref b138), .val (.ref b153), .unset]) (hb hby at_130) rfl rfl rfl ?_
      refine g_aload X157 hx (hb hby at_132) rfl rfl rfl ?_
      refine g_iload X157 hx (hb hby at_134) rfl rfl ?_
      have f159 : Fld Z T157.heap b138 "java/util/ArrayList" "size" "I" (.int (3 : Int32)) := ((pv151_2.ext E153).keep kc157 (ninS ne_b138_b153 nin0))
      have f160 : Fld Z T157.heap b138 "java/util/ArrayList" "elementData" "[Ljava/lang/Object;" (.ref b_143) := ((p151_1.ext E153).keep kc157 (ninS ne_b138_b153 nin0))
      have f161 : Arv Z T157.heap b_143 kb_143 (.object "java/lang/Object") (10 : Int32) [(.ref b1), (.ref b3), (.ref b6), .null, .null, .null, .null, .null, .null, .null] .null := ((pv151_4.ext E153).keep kc157 (ninS ne_b_143_b153 nin0))
      have f162 : Exa Z T157.heap b138 "java/util/ArrayList" := ((p151_0.ext E153).keep kc157)
      have f163 : Exa Z T157.heap b6 "[B" := (((f152.keep kc151).ext E153).keep kc157)
      refine g_virtual X157 hx hZ hown (hw _ (List.mem_of_getElem? (i := 68) rfl)) (hw _ (List.mem_of_getElem? (i := 69) rfl)) (notFace_of_selects (args := #[]) (mvT hZ (hw _ (List.mem_of_getElem? (i := 71) rfl)))) (hw _ (List.mem_of_getElem? (i := 71) rfl)) (hw _ (List.mem_of_getElem? (i := 70) rfl)) (hw _ (List.mem_of_getElem? (i := 61) rfl)) (hw _ (List.mem_of_getElem? (i := 72) rfl)) (by decide) (a := b153) p157_0 (rm_word l Z a0 hw b153 b138 b_143 kb_143 (3 : Int32) [(.ref b1), (.ref b3), (.ref b6), .null, .null, .null, .null, .null, .null, .null] (2 : Int32) b6 T157.heap n0 Z157 p157_1 f159 f160 f161 f162 (by first | decide | assumption | rfl | (intro _; rfl)) (by first | decide | assumption | rfl | (intro _; rfl)) (by first | decide | assumption | rfl | (intro _; rfl)) (by first | decide | assumption | rfl | (intro _; rfl)) (Ins.self f163)) (by rw [hml]; rfl) rfl [(.int (2 : Int32))] rfl rfl (W := 0) (Nat.le_of_eq rfl) (by decide) (by decide) (by decide) (by decide) (lenOf pd_9 rfl) (hb hby at_136) rfl fun v158 T158 L158 X158 hQ158 => ?_
      obtain ⟨rfl, Nq158, eh158⟩ := hQ158
      have N158 := Fr.app N157 Nq158
      show Ga _ _ _ _ _ _ _ _ _ _ _ [(.ref b6)]
      refine g_astore X158 hx (Ls' := #[.val (.int p0), .val (.int p1), .val (.int p2), .val (.int p3), .val (.ref b1), .val (.ref b3), .val (.ref b6), .val (.int (3 : Int32)), .val (.int (2 : Int32)), .val (.ref b138), .val (.ref b153), .val (.ref b6)]) (hb hby at_139) rfl rfl rfl ?_
      refine g_aload X158 hx (hb hby at_141) rfl rfl rfl ?_
      refine g_ifnonnullY X158 hx (q := 148) (hb hby at_143) (by decide) (by decide) ?_
      refine g_iload X158 hx (hb hby at_148) rfl rfl ?_
      refine g_ifY X158 hx (q := 175) (hb hby at_150) (XT.i0_ne_t (by decide : ¬ (2 : Int32) = (0 : Int32))) (by decide) (by decide) ?_
      refine g_iload X158 hx (hb hby at_175) rfl rfl ?_
      refine g_iconst X158 hx (r := (1 : Int32)) (hb hby at_177) rfl rfl ?_
      refine g_icmpY X158 hx (q := 215) (hb hby at_178) (XT.ii_ne_t (by decide : ¬ (2 : Int32) = (1 : Int32))) (by decide) (by decide) ?_
      refine g_aload X158 hx (hb hby at_215) rfl rfl rfl ?_
      have f164 : Arv Z T157.heap b6 ka6 .byte (3 : Int32) [(.int (p2.toInt8.toInt32)), (.int ((p2 >>> ((8 : Int32) &&& 31)).toInt8.toInt32)), (.int ((p2 >>> ((16 : Int32) &&& 31)).toInt8.toInt32))] (.int (0 : Int32)) := ((f156.ext E153).keep kc157 (ninS ne_b6_b153 nin0))
      refine g_len X158 hx hZ eh158 f164 (hb hby at_217) rfl ?_
      refine g_iconst X158 hx (r := (3 : Int32)) (hb hby at_218) rfl rfl ?_
      refine g_icmpN X158 hx (hb hby at_219) rfl (XT.ii_ne_f (by decide : (3 : Int32) = (3 : Int32))) ?_
      refine g_aload X158 hx (hb hby at_222) rfl rfl rfl ?_
      refine g_iconst X158 hx (r := (0 : Int32)) (hb hby at_224) rfl rfl ?_
      refine g_baload X158 hx hZ eh158 f164 (v := (.int (p2.toInt8.toInt32))) ⟨by decide, by decide⟩ rfl (hb hby at_225) rfl ?_
      refine g_iloadN X158 hx (hb hby at_226) rfl rfl ?_
      refine g_i2b X158 hx (hb hby at_227) rfl rfl ?_
      refine g_icmpN X158 hx (hb hby at_228) rfl (XT.ii_ne_f rfl) ?_
      refine g_aload X158 hx (hb hby at_231) rfl rfl rfl ?_
      refine g_iconst X158 hx (r := (1 : Int32)) (hb hby at_233) rfl rfl ?_
      refine g_baload X158 hx hZ eh158 f164 (v := (.int ((p2 >>> ((8 : Int32) &&& 31)).toInt8.toInt32))) ⟨by decide, by decide⟩ rfl (hb hby at_234) rfl ?_
      refine g_iloadN X158 hx (hb hby at_235) rfl rfl ?_
      refine g_bipush X158 hx (r := (8 : Int32)) (hb hby at_236) rfl rfl ?_
      refine g_ishr X158 hx (hb hby at_238) rfl rfl ?_
      refine g_i2b X158 hx (hb hby at_239) rfl rfl ?_
      refine g_icmpN X158 hx (hb hby at_240) rfl (XT.ii_ne_f rfl) ?_
      refine g_aload X158 hx (hb hby at_243) rfl rfl rfl ?_
      refine g_iconst X158 hx (r := (2 : Int32)) (hb hby at_245) rfl rfl ?_
      refine g_baload X158 hx hZ eh158 f164 (v := (.int ((p2 >>> ((16 : Int32) &&& 31)).toInt8.toInt32))) ⟨by decide, by decide⟩ rfl (hb hby at_246) rfl ?_
      refine g_iloadN X158 hx (hb hby at_247) rfl rfl ?_
      refine g_bipush X158 hx (r := (16 : Int32)) (hb hby at_248) rfl rfl ?_
      refine g_ishr X158 hx (hb hby at_250) rfl rfl ?_
      refine g_i2b X158 hx (hb hby at_251) rfl rfl ?_
      refine g_icmpN X158 hx (hb hby at_252) rfl (XT.ii_ne_f rfl) ?_
      refine g_iconst X158 hx (r := (1 : Int32)) (hb hby at_255) rfl rfl ?_
      refine g_goto X158 hx (q := 260) (hb hby at_256) (by decide) (by decide) ?_
      exact g_retN X158 hx (t := .boolean) (r := (1 : Int32)) hret (by simp) hlk (hb hby at_260) rfl (by decide) (by decide) (by rw [eh158]; exact ⟨rfl, N158⟩)
set_option maxRecDepth 65536 in
set_option maxHeartbeats 40000000 in
theorem comes_1 {Post : Tables → Env → Array Value → State → Outcome → State → Prop} (hpost : ∀ tb e args s v u, (limb_1_1.after args s (.returned v) u = true ∧ limb_1_2.after args s (.returned v) u = true ∧ True) → FrameEnd s (.returned v) u (Jvm.fieldLocs frame_1_writes args s ++ Jvm.arrayLocs frame_1_arrays args s ++ Jvm.staticLocs frame_1_statics s) 24 128 → Post tb e args s (.returned v) u) :
    ArmFor flags0 classFile x code maxLocals ret World_1 tables_1 room_1 Calls_1 rest_1 Pre_1 Post := by
  intro l hfl _ _ p e ha hc hk s m args below hf hA hF happ hP
  obtain ⟨hcalls, hrest, hpre⟩ := hP
  obtain ⟨-, -, -, hnamed, -, -, -, hat⟩ := (Spec.applies_iff hf).mp happ
  obtain ⟨hg, hn⟩ := and_e (Cond.before_iff.mp (show (Jvm.Cond.and given_1 narrow_1).before args s = true from hpre))
  obtain ⟨hcn, hg1⟩ := and_e hg
  obtain ⟨k1, hg2⟩ := and_e hg1
  obtain ⟨k2, hg3⟩ := and_e hg2
  obtain ⟨k3, hg4⟩ := and_e hg3
  have k4 := hg4
  obtain ⟨w0, w1, w2, w3, rfl⟩ : ∃ w0 w1 w2 w3 : Value, args = #[w0, w1, w2, w3] := by
    have hs : args.size = 4 := by simpa [Cond.value, given_1] using hcn
    obtain ⟨L⟩ := args
    match L, hs with
    | [w0, w1, w2, w3], _ => exact ⟨w0, w1, w2, w3, rfl⟩
  have hw := fun d (hd : d ∈ tables_1) => atoms_spec (ws := Jvm.Cond.code x code maxLocals ret :: tables_1) hat d (List.mem_cons_of_mem _ hd)
  have hfit : Fit s := fun {y c} hc i hi => by
    obtain ⟨ha, rfl⟩ := Array.getElem?_eq_some_iff.mp hc
    have q := List.all_eq_true.mp ((Array.all_eq_true_iff_forall_mem.mp hF) _ (Array.getElem_mem ha)) i (List.mem_range.mpr hi)
    simpa [Array.getElem?_eq_getElem hi] using q
  obtain ⟨hsets, hown0⟩ := atoms_of _ (rest_1_c_eq ▸ (show rest_1_c.before _ s = true from hrest))
  have hr0 := Cond.before_iff.mp hown0
  obtain ⟨i0, ei0⟩ := is_v k1
  obtain rfl : w0 = (.int i0) := Option.some.inj ei0
  obtain ⟨i1, ei1⟩ := is_v k2
  obtain rfl : w1 = (.int i1) := Option.some.inj ei1
  obtain ⟨i2, ei2⟩ := is_v k3
  obtain rfl : w2 = (.int i2) := Option.some.inj ei2
  obtain ⟨i3, ei3⟩ := is_v k4
  obtain rfl : w3 = (.int i3) := Option.some.inj ei3
  obtain ⟨d0, ed0⟩ := arr_v (Cond.before_iff.mp (hsets _ (List.mem_of_getElem? (i := 6) rfl)))
  have S0 := Sta.start ed0 (Or.inr ⟨hw _ (List.mem_of_getElem? (i := 4) rfl), hsets _ (List.mem_of_getElem? (i := 2) rfl)⟩)
  obtain ⟨cd0, Ad0⟩ := Arr.start ed0 (Cond.before_iff.mp (hsets _ (List.mem_of_getElem? (i := 6) rfl)))
  have V0 := own_empty hfit Ad0 ed0 (own_eqi (Cond.before_iff.mp (hsets _ (List.mem_of_getElem? (i := 8) rfl))))
  obtain ⟨n, o, h1, h2, h3, _, L, rfl, ⟨rfl, N⟩, hq⟩ := rm_law l s _ hw tables_1 i0 i1 i2 i3 d0 cd0.cls s.heap s.heap.size (Nat.le_refl _) (Old.start s) S0 V0 p e ha hc hk s m _ below hf ((Spec.applies_iff_loose hf).mp happ).1 ⟨rfl, State.Warmed39.refl s, rfl⟩ trivial
  refine ⟨n, _, h1, h2, h3, hpost _ _ _ _ _ _ ⟨Cond.after_iff.mpr rfl, Cond.after_iff.mpr (eq_i res_at (Term.int_eval (1)) rfl), trivial⟩ ⟨hq.1, hq.2.1, (hq.2.2.sift fun y hy => Or.inr (N y hy)).mono (by decide) (by decide)⟩⟩
theorem main_1_1 : Claimed_1_1 := comes_1 fun _ _ _ _ _ _ h hF => ⟨h.1, hF⟩
theorem main_1_2 : Claimed_1_2 := comes_1 fun _ _ _ _ _ _ h hF => ⟨h.2.1, hF⟩
end Jvm.Pilot.@@N@@
namespace Jvm.Pilot.@@N@@
open Jvm Jvm.ClassFile Sem Op Lib Jvm.Free Jvm.Stand Jvm.Pilot.@@N@@.Jvm.D
/-! MADE BY PROGRAM (witnessworld.py) out of the Statement's table words and the real class files: 21 classes; the members and pool entries that the words name. The judged class is class 1, her method 1. -/
namespace start1
open Jvm.ClassFile
def u (s : String) : CpInfo := .utf8 (stringToUtf16 s)
/-- a pool by its gaps: so many unusable entries, then the entry; so many at the end -/
def gap : Nat → List CpInfo → List CpInfo
  | 0, r => r
  | n + 1, r => .unusable :: gap n r
def poolList (es : List (Nat × CpInfo)) (last : Nat) : List CpInfo := es.foldr (fun e r => gap e.1 (e.2 :: r)) (gap last [])
def pool (es : List (Nat × CpInfo)) (last : Nat) : Array CpInfo := ⟨poolList es last⟩
def fileOf (pool : Array CpInfo) (this : Nat) (attrs : Array Attribute := #[]) (ms : Array MethodInfo := #[]) (fl : Nat := 33) (sup : Nat := 0) (ifs : Array Nat := #[]) (fds : Array FieldInfo := #[]) : ClassFile where
  minorVersion := 0
  majorVersion := 65
  constantPool := pool
  accessFlags := fl
  thisClass := this
  superClass := sup
  interfaces := ifs
  fields := fds
  methods := ms
  attributes := attrs
def plain (name : String) (sup : Option ClassId) : Class where
  name := name
  kind := .ordinary
  loader := none
  accessFlags := 33
  super := sup
  interfaces := #[]
  cf := none
  fields := #[]
  methods := #[]
  instanceTypes := #[]
  staticTypes := #[]
  resolved := #[]
  callSites := []
  init := .initialized
  statics := none
  mirror := none

def pool0 : Array CpInfo := pool [(5, u "<init>"), (0, u "()V"), (1, .class_ 10), (1, u "java/lang/Object")] 113

def k0c0 : Code := { maxStack := 0, maxLocals := 1, code := object_method_1_code, exceptionTable := #[], attributes := #[] }
def k0m0 : Method := { name := "<init>", desc := "()V", sig := { parameters := [], returnType := none }, accessFlags := 1, code := some k0c0 }
/-- java/lang/Object -/
def k0 : Class := { plain "java/lang/Object" none with
  accessFlags := 33
  interfaces := #[]
  cf := some (fileOf pool0 8 #[] #[{ accessFlags := 1, nameIndex := 5, descriptorIndex := 6, attributes := #[] }] 33 0 #[] #[])
  fields := #[]
  methods := #[k0m0]
  instanceTypes := #[]
  staticTypes := #[]
  resolved := Array.replicate 124 none
  statics := none }

def pool1 : Array CpInfo := pool [(2, .class_ 4), (0, .nameAndType 5 6), (0, u "java/lang/Object"), (0, u "<init>"), (0, u "()V"), (0, .integer 2147483647), (0, .class_ 9), (0, u "java/util/ArrayList"), (0, .methodref 8 3), (0, .methodref 8 12), (0, .nameAndType 13 14), (0, u "add"), (0, u "(Ljava/lang/Object;)Z"), (0, .class_ 16), (0, u "com/example/covering/covering/server/Request"), (0, .methodref 15 18), (0, .nameAndType 5 19), (0, u "(Ljava/util/List;)V"), (0, .methodref 15 21), (0, .nameAndType 22 23), (0, u "word"), (0, u "(I)[B"), (0, .class_ 25), (0, u "com/example/covering/covering/server/RequestWordPinLaw"), (2, u "law"), (0, u "(IIII)Z")] 5

def k1m0 : Method := { name := "<init>", desc := "()V", sig := { parameters := [], returnType := none }, accessFlags := 1, code := none }
def k1c1 : Code := { maxStack := 5, maxLocals := 12, code := code, exceptionTable := #[], attributes := #[] }
def k1m1 : Method := { name := "law", desc := "(IIII)Z", sig := { parameters := [.int, .int, .int, .int], returnType := some .boolean }, accessFlags := 9, code := some k1c1 }
/-- com/example/covering/covering/server/RequestWordPinLaw -/
def k1 : Class := { plain "com/example/covering/covering/server/RequestWordPinLaw" (some 0) with
  accessFlags := 49
  interfaces := #[]
  cf := some (fileOf pool1 24 #[] #[{ accessFlags := 1, nameIndex := 5, descriptorIndex := 6, attributes := #[] }, { accessFlags := 9, nameIndex := 28, descriptorIndex := 29, attributes := #[] }] 49 2 #[] #[])
  fields := #[]
  methods := #[k1m0, k1m1]
  instanceTypes := #[]
  staticTypes := #[]
  resolved := Array.replicate 35 none
  statics := none }

def pool2 : Array CpInfo := pool [(8, .class_ 10), (1, u "java/lang/Iterable"), (24, .class_ 36), (0, u "java/lang/Object")] 25

/-- java/lang/Iterable -/
def k2 : Class := { plain "java/lang/Iterable" (some 0) with
  accessFlags := 1537
  interfaces := #[]
  cf := some (fileOf pool2 8 #[] #[] 1537 35 #[] #[])
  fields := #[]
  methods := #[]
  instanceTypes := #[]
  staticTypes := #[]
  resolved := Array.replicate 62 none
  statics := none }

def pool3 : Array CpInfo := pool [(10, .class_ 12), (1, u "java/util/Collection"), (47, .class_ 61), (0, u "java/lang/Object"), (0, .class_ 63), (0, u "java/lang/Iterable")] 51

/-- java/util/Collection -/
def k3 : Class := { plain "java/util/Collection" (some 0) with
  accessFlags := 1537
  interfaces := #[2]
  cf := some (fileOf pool3 10 #[] #[] 1537 60 #[62] #[])
  fields := #[]
  methods := #[]
  instanceTypes := #[]
  staticTypes := #[]
  resolved := Array.replicate 115 none
  statics := none }

def pool4 : Array CpInfo := pool [(1, .methodref 2 3), (0, .class_ 4), (0, .nameAndType 5 6), (0, u "java/lang/Object"), (0, u "<init>"), (0, u "()V"), (1, .class_ 10), (1, u "java/util/AbstractCollection"), (66, .class_ 78), (0, u "java/util/Collection")] 81

def k4c0 : Code := { maxStack := 1, maxLocals := 1, code := jdk_22_method_1_code, exceptionTable := #[], attributes := #[] }
def k4m0 : Method := { name := "<init>", desc := "()V", sig := { parameters := [], returnType := none }, accessFlags := 4, code := some k4c0 }
/-- java/util/AbstractCollection -/
def k4 : Class := { plain "java/util/AbstractCollection" (some 0) with
  accessFlags := 1057
  interfaces := #[3]
  cf := some (fileOf pool4 8 #[] #[{ accessFlags := 4, nameIndex := 5, descriptorIndex := 6, attributes := #[] }] 1057 2 #[77] #[])
  fields := #[]
  methods := #[k4m0]
  instanceTypes := #[]
  staticTypes := #[]
  resolved := Array.replicate 160 none
  statics := none }

def pool5 : Array CpInfo := pool [(8, .class_ 10), (1, u "java/util/SequencedCollection"), (15, .class_ 27), (0, u "java/lang/Object"), (0, .class_ 29), (0, u "java/util/Collection")] 27

/-- java/util/SequencedCollection -/
def k5 : Class := { plain "java/util/SequencedCollection" (some 0) with
  accessFlags := 1537
  interfaces := #[3]
  cf := some (fileOf pool5 8 #[] #[] 1537 26 #[28] #[])
  fields := #[]
  methods := #[]
  instanceTypes := #[]
  staticTypes := #[]
  resolved := Array.replicate 57 none
  statics := none }

def pool6 : Array CpInfo := pool [(8, .class_ 10), (1, u "java/util/List"), (64, u "get"), (0, u "(I)Ljava/lang/Object;"), (26, .class_ 104), (0, u "java/lang/Object"), (15, .class_ 121), (0, u "java/util/SequencedCollection")] 129

def k6m0 : Method := { name := "get", desc := "(I)Ljava/lang/Object;", sig := { parameters := [.int], returnType := some (.object "java/lang/Object") }, accessFlags := 1025, code := none }
/-- java/util/List -/
def k6 : Class := { plain "java/util/List" (some 0) with
  accessFlags := 1537
  interfaces := #[5]
  cf := some (fileOf pool6 8 #[] #[{ accessFlags := 1025, nameIndex := 75, descriptorIndex := 76, attributes := #[] }] 1537 103 #[120] #[])
  fields := #[]
  methods := #[k6m0]
  instanceTypes := #[]
  staticTypes := #[]
  resolved := Array.replicate 251 none
  statics := none }

def pool7 : Array CpInfo := pool [(1, .methodref 2 3), (0, .class_ 4), (0, .nameAndType 5 6), (0, u "java/util/AbstractCollection"), (0, u "<init>"), (0, u "()V"), (0, .fieldref 8 9), (0, .class_ 10), (0, .nameAndType 11 12), (0, u "java/util/AbstractList"), (0, u "modCount"), (0, u "I"), (64, .class_ 78), (0, u "java/util/AbstractList$Itr"), (3, .class_ 83), (0, u "java/util/AbstractList$ListItr"), (9, .class_ 94), (0, u "java/util/AbstractList$RandomAccessSubList"), (3, .class_ 99), (0, u "java/util/AbstractList$SubList"), (33, .class_ 134), (0, u "java/util/List"), (73, .class_ 209), (0, u "java/util/AbstractList$SubList$1"), (0, .class_ 211), (0, u "java/util/AbstractList$RandomAccessSpliterator")] 6

def k7c0 : Code := { maxStack := 2, maxLocals := 1, code := jdk_39_method_1_code, exceptionTable := #[], attributes := #[] }
def k7m0 : Method := { name := "<init>", desc := "()V", sig := { parameters := [], returnType := none }, accessFlags := 4, code := some k7c0 }
/-- java/util/AbstractList -/
def k7 : Class := { plain "java/util/AbstractList" (some 4) with
  accessFlags := 1057
  interfaces := #[6]
  cf := some (fileOf pool7 8 #[.nestMembers #[93, 98, 208, 210, 82, 77]] #[{ accessFlags := 4, nameIndex := 5, descriptorIndex := 6, attributes := #[] }] 1057 2 #[133] #[{ accessFlags := 132, nameIndex := 11, descriptorIndex := 12, attributes := #[] }])
  fields := #[{ name := "modCount", type := .int, accessFlags := 132, slot := 0, constantValue := 0 }]
  methods := #[k7m0]
  instanceTypes := #[.int]
  staticTypes := #[]
  resolved := Array.replicate 218 none
  statics := none }

def pool8 : Array CpInfo := pool [(1, .class_ 2), (0, u "java/util/RandomAccess"), (0, .class_ 4), (0, u "java/lang/Object")] 2

/-- java/util/RandomAccess -/
def k8 : Class := { plain "java/util/RandomAccess" (some 0) with
  accessFlags := 1537
  interfaces := #[]
  cf := some (fileOf pool8 1 #[] #[] 1537 3 #[] #[])
  fields := #[]
  methods := #[]
  instanceTypes := #[]
  staticTypes := #[]
  resolved := Array.replicate 7 none
  statics := none }

def pool9 : Array CpInfo := pool [(1, .class_ 2), (0, u "java/lang/Cloneable"), (0, .class_ 4), (0, u "java/lang/Object")] 2

/-- java/lang/Cloneable -/
def k9 : Class := { plain "java/lang/Cloneable" (some 0) with
  accessFlags := 1537
  interfaces := #[]
  cf := some (fileOf pool9 1 #[] #[] 1537 3 #[] #[])
  fields := #[]
  methods := #[]
  instanceTypes := #[]
  staticTypes := #[]
  resolved := Array.replicate 7 none
  statics := none }

def pool10 : Array CpInfo := pool [(1, .class_ 2), (0, u "java/io/Serializable"), (0, .class_ 4), (0, u "java/lang/Object")] 2

/-- java/io/Serializable -/
def k10 : Class := { plain "java/io/Serializable" (some 0) with
  accessFlags := 1537
  interfaces := #[]
  cf := some (fileOf pool10 1 #[] #[] 1537 3 #[] #[])
  fields := #[]
  methods := #[]
  instanceTypes := #[]
  staticTypes := #[]
  resolved := Array.replicate 7 none
  statics := none }

def pool11 : Array CpInfo := pool [(1, .methodref 2 3), (0, .class_ 4), (0, .nameAndType 5 6), (0, u "java/util/AbstractList"), (0, u "<init>"), (0, u "()V"), (0, .class_ 8), (0, u "java/lang/Object"), (0, .fieldref 10 11), (0, .class_ 12), (0, .nameAndType 13 14), (0, u "java/util/ArrayList"), (0, u "elementData"), (0, u "[Ljava/lang/Object;"), (2, u "EMPTY_ELEMENTDATA"), (21, .fieldref 10 40), (0, .nameAndType 41 14), (0, u "DEFAULTCAPACITY_EMPTY_ELEMENTDATA"), (5, u "()[Ljava/lang/Object;"), (0, .fieldref 10 49), (0, .nameAndType 50 51), (0, u "size"), (0, u "I"), (11, .fieldref 10 64), (0, .nameAndType 65 51), (0, u "modCount"), (3, .methodref 10 70), (0, .nameAndType 71 72), (0, u "grow"), (0, u "(I)[Ljava/lang/Object;"), (6, .methodref 80 81), (0, .class_ 82), (0, .nameAndType 83 84), (0, u "java/lang/Math"), (0, u "max"), (0, u "(II)I"), (11, u "(Ljava/lang/Object;)Z"), (21, .methodref 119 120), (0, .class_ 121), (0, .nameAndType 122 84), (0, u "java/util/Objects"), (0, u "checkIndex"), (0, .methodref 10 124), (0, .nameAndType 13 125), (0, u "(I)Ljava/lang/Object;"), (3, .methodref 10 130), (0, .nameAndType 71 47), (0, .methodref 10 132), (0, .nameAndType 133 134), (0, u "add"), (0, u "(Ljava/lang/Object;[Ljava/lang/Object;I)V"), (13, .class_ 149), (0, u "java/util/List"), (112, .class_ 263), (0, u "java/util/ArrayList$ListItr"), (3, .class_ 268), (0, u "java/util/ArrayList$Itr"), (7, .class_ 277), (0, u "java/util/ArrayList$SubList"), (12, .class_ 291), (0, u "java/util/ArrayList$ArrayListSpliterator"), (37, .class_ 330), (0, u "java/util/RandomAccess"), (0, .class_ 332), (0, u "java/lang/Cloneable"), (0, .class_ 334), (0, u "java/io/Serializable"), (0, u "serialVersionUID"), (0, u "J"), (3, u "DEFAULT_CAPACITY"), (40, u "get"), (118, .class_ 501), (0, u "java/util/ArrayList$SubList$2"), (0, .class_ 503), (0, u "java/util/ArrayList$SubList$1")] 5

def k11c0 : Code := { maxStack := 2, maxLocals := 1, code := jdk_38_method_2_code, exceptionTable := #[], attributes := #[] }
def k11m0 : Method := { name := "<init>", desc := "()V", sig := { parameters := [], returnType := none }, accessFlags := 1, code := some k11c0 }
def k11c1 : Code := { maxStack := 4, maxLocals := 4, code := jdk_38_method_6_code, exceptionTable := #[], attributes := #[] }
def k11m1 : Method := { name := "grow", desc := "(I)[Ljava/lang/Object;", sig := { parameters := [.int], returnType := some (.array (.object "java/lang/Object")) }, accessFlags := 2, code := some k11c1 }
def k11c2 : Code := { maxStack := 3, maxLocals := 1, code := jdk_38_method_7_code, exceptionTable := #[], attributes := #[] }
def k11m2 : Method := { name := "grow", desc := "()[Ljava/lang/Object;", sig := { parameters := [], returnType := some (.array (.object "java/lang/Object")) }, accessFlags := 2, code := some k11c2 }
def k11c3 : Code := { maxStack := 2, maxLocals := 2, code := jdk_38_method_18_code, exceptionTable := #[], attributes := #[] }
def k11m3 : Method := { name := "elementData", desc := "(I)Ljava/lang/Object;", sig := { parameters := [.int], returnType := some (.object "java/lang/Object") }, accessFlags := 0, code := some k11c3 }
def k11c4 : Code := { maxStack := 2, maxLocals := 2, code := jdk_38_method_20_code, exceptionTable := #[], attributes := #[] }
def k11m4 : Method := { name := "get", desc := "(I)Ljava/lang/Object;", sig := { parameters := [.int], returnType := some (.object "java/lang/Object") }, accessFlags := 1, code := some k11c4 }
def k11c5 : Code := { maxStack := 3, maxLocals := 4, code := jdk_38_method_24_code, exceptionTable := #[], attributes := #[] }
def k11m5 : Method := { name := "add", desc := "(Ljava/lang/Object;[Ljava/lang/Object;I)V", sig := { parameters := [(.object "java/lang/Object"), (.array (.object "java/lang/Object")), .int], returnType := none }, accessFlags := 2, code := some k11c5 }
def k11c6 : Code := { maxStack := 4, maxLocals := 2, code := jdk_38_method_25_code, exceptionTable := #[], attributes := #[] }
def k11m6 : Method := { name := "add", desc := "(Ljava/lang/Object;)Z", sig := { parameters := [(.object "java/lang/Object")], returnType := some .boolean }, accessFlags := 1, code := some k11c6 }
/-- java/util/ArrayList -/
def k11 : Class := { plain "java/util/ArrayList" (some 7) with
  accessFlags := 33
  interfaces := #[6, 8, 9, 10]
  cf := some (fileOf pool11 10 #[.nestMembers #[290, 276, 500, 502, 262, 267]] #[{ accessFlags := 1, nameIndex := 5, descriptorIndex := 6, attributes := #[] }, { accessFlags := 2, nameIndex := 71, descriptorIndex := 72, attributes := #[] }, { accessFlags := 2, nameIndex := 71, descriptorIndex := 47, attributes := #[] }, { accessFlags := 0, nameIndex := 13, descriptorIndex := 125, attributes := #[] }, { accessFlags := 1, nameIndex := 381, descriptorIndex := 125, attributes := #[] }, { accessFlags := 2, nameIndex := 133, descriptorIndex := 134, attributes := #[] }, { accessFlags := 1, nameIndex := 133, descriptorIndex := 96, attributes := #[] }] 33 2 #[148, 329, 331, 333] #[{ accessFlags := 26, nameIndex := 335, descriptorIndex := 336, attributes := #[] }, { accessFlags := 26, nameIndex := 340, descriptorIndex := 51, attributes := #[] }, { accessFlags := 26, nameIndex := 17, descriptorIndex := 14, attributes := #[] }, { accessFlags := 26, nameIndex := 41, descriptorIndex := 14, attributes := #[] }, { accessFlags := 128, nameIndex := 13, descriptorIndex := 14, attributes := #[] }, { accessFlags := 2, nameIndex := 50, descriptorIndex := 51, attributes := #[] }])
  fields := #[{ name := "serialVersionUID", type := .long, accessFlags := 26, slot := 0, constantValue := 0 }, { name := "DEFAULT_CAPACITY", type := .int, accessFlags := 26, slot := 1, constantValue := 0 }, { name := "EMPTY_ELEMENTDATA", type := (.array (.object "java/lang/Object")), accessFlags := 26, slot := 2, constantValue := 0 }, { name := "DEFAULTCAPACITY_EMPTY_ELEMENTDATA", type := (.array (.object "java/lang/Object")), accessFlags := 26, slot := 3, constantValue := 0 }, { name := "elementData", type := (.array (.object "java/lang/Object")), accessFlags := 128, slot := 1, constantValue := 0 }, { name := "size", type := .int, accessFlags := 2, slot := 2, constantValue := 0 }]
  methods := #[k11m0, k11m1, k11m2, k11m3, k11m4, k11m5, k11m6]
  instanceTypes := #[.int, (.array (.object "java/lang/Object")), .int]
  staticTypes := #[.long, .int, (.array (.object "java/lang/Object")), (.array (.object "java/lang/Object"))]
  resolved := Array.replicate 509 none
  statics := some 0 }

def pool12 : Array CpInfo := pool [(1, .class_ 2), (0, u "java/lang/Math"), (1, .class_ 6), (1, u "java/lang/Object"), (0, u "<init>"), (0, u "()V"), (89, .class_ 100), (1, u "java/lang/Math$RandomNumberGeneratorHolder"), (71, u "negativeZeroFloatBits"), (0, u "J"), (2, u "negativeZeroDoubleBits"), (21, u "max"), (46, u "$assertionsDisabled"), (0, u "Z"), (88, u "(II)I"), (2, u "twoToTheDoubleScaleDown"), (0, u "D"), (4, u "twoToTheDoubleScaleUp"), (9, u "E"), (3, u "PI"), (2, u "TAU"), (2, u "DEGREES_TO_RADIANS"), (0, u "RADIANS_TO_DEGREES")] 94

def k12m0 : Method := { name := "<init>", desc := "()V", sig := { parameters := [], returnType := none }, accessFlags := 2, code := none }
def k12c1 : Code := { maxStack := 2, maxLocals := 2, code := jdk_29_method_65_code, exceptionTable := #[], attributes := #[] }
def k12m1 : Method := { name := "max", desc := "(II)I", sig := { parameters := [.int, .int], returnType := some .int }, accessFlags := 9, code := some k12c1 }
/-- java/lang/Math -/
def k12 : Class := { plain "java/lang/Math" (some 0) with
  accessFlags := 49
  interfaces := #[]
  cf := some (fileOf pool12 1 #[.nestMembers #[98]] #[{ accessFlags := 2, nameIndex := 7, descriptorIndex := 8, attributes := #[] }, { accessFlags := 9, nameIndex := 198, descriptorIndex := 335, attributes := #[] }] 49 4 #[] #[{ accessFlags := 25, nameIndex := 354, descriptorIndex := 339, attributes := #[] }, { accessFlags := 25, nameIndex := 358, descriptorIndex := 339, attributes := #[] }, { accessFlags := 25, nameIndex := 361, descriptorIndex := 339, attributes := #[] }, { accessFlags := 26, nameIndex := 364, descriptorIndex := 339, attributes := #[] }, { accessFlags := 26, nameIndex := 365, descriptorIndex := 339, attributes := #[] }, { accessFlags := 26, nameIndex := 172, descriptorIndex := 173, attributes := #[] }, { accessFlags := 26, nameIndex := 176, descriptorIndex := 173, attributes := #[] }, { accessFlags := 8, nameIndex := 344, descriptorIndex := 339, attributes := #[] }, { accessFlags := 8, nameIndex := 338, descriptorIndex := 339, attributes := #[] }, { accessFlags := 4120, nameIndex := 245, descriptorIndex := 246, attributes := #[] }])
  fields := #[{ name := "E", type := .double, accessFlags := 25, slot := 0, constantValue := 0 }, { name := "PI", type := .double, accessFlags := 25, slot := 1, constantValue := 0 }, { name := "TAU", type := .double, accessFlags := 25, slot := 2, constantValue := 0 }, { name := "DEGREES_TO_RADIANS", type := .double, accessFlags := 26, slot := 3, constantValue := 0 }, { name := "RADIANS_TO_DEGREES", type := .double, accessFlags := 26, slot := 4, constantValue := 0 }, { name := "negativeZeroFloatBits", type := .long, accessFlags := 26, slot := 5, constantValue := 0 }, { name := "negativeZeroDoubleBits", type := .long, accessFlags := 26, slot := 6, constantValue := 0 }, { name := "twoToTheDoubleScaleUp", type := .double, accessFlags := 8, slot := 7, constantValue := 0 }, { name := "twoToTheDoubleScaleDown", type := .double, accessFlags := 8, slot := 8, constantValue := 0 }, { name := "$assertionsDisabled", type := .boolean, accessFlags := 4120, slot := 9, constantValue := 0 }]
  methods := #[k12m0, k12m1]
  instanceTypes := #[]
  staticTypes := #[.double, .double, .double, .double, .double, .long, .long, .double, .double, .boolean]
  resolved := Array.replicate 460 none
  statics := none }

def pool13 : Array CpInfo := pool [(1, .methodref 2 3), (0, .class_ 4), (0, .nameAndType 5 6), (0, u "java/lang/Object"), (0, u "<init>"), (0, u "()V"), (0, .fieldref 8 9), (0, .class_ 10), (0, .nameAndType 11 12), (0, u "com/example/covering/covering/server/Request"), (0, u "words"), (0, u "Ljava/util/List;"), (5, .class_ 20), (1, u "java/util/List"), (2, .interfaceMethodref 18 24), (0, .nameAndType 25 26), (0, u "get"), (0, u "(I)Ljava/lang/Object;"), (0, .class_ 28), (0, u "[B"), (78, u "INTEGER"), (0, u "Ljava/util/regex/Pattern;"), (32, u "(Ljava/util/List;)V"), (4, u "word"), (0, u "(I)[B")] 25

def k13c0 : Code := { maxStack := 2, maxLocals := 2, code := prog_14_method_1_code, exceptionTable := #[], attributes := #[] }
def k13m0 : Method := { name := "<init>", desc := "(Ljava/util/List;)V", sig := { parameters := [(.object "java/util/List")], returnType := none }, accessFlags := 0, code := some k13c0 }
def k13c1 : Code := { maxStack := 2, maxLocals := 2, code := prog_14_method_4_code, exceptionTable := #[], attributes := #[] }
def k13m1 : Method := { name := "word", desc := "(I)[B", sig := { parameters := [.int], returnType := some (.array .byte) }, accessFlags := 0, code := some k13c1 }
/-- com/example/covering/covering/server/Request -/
def k13 : Class := { plain "com/example/covering/covering/server/Request" (some 0) with
  accessFlags := 32
  interfaces := #[]
  cf := some (fileOf pool13 8 #[] #[{ accessFlags := 0, nameIndex := 5, descriptorIndex := 141, attributes := #[] }, { accessFlags := 0, nameIndex := 146, descriptorIndex := 147, attributes := #[] }] 32 2 #[] #[{ accessFlags := 26, nameIndex := 107, descriptorIndex := 108, attributes := #[] }, { accessFlags := 18, nameIndex := 11, descriptorIndex := 12, attributes := #[] }])
  fields := #[{ name := "INTEGER", type := (.object "java/util/regex/Pattern"), accessFlags := 26, slot := 0, constantValue := 0 }, { name := "words", type := (.object "java/util/List"), accessFlags := 18, slot := 0, constantValue := 0 }]
  methods := #[k13m0, k13m1]
  instanceTypes := #[(.object "java/util/List")]
  staticTypes := #[(.object "java/util/regex/Pattern")]
  resolved := Array.replicate 173 none
  statics := none }

def pool14 : Array CpInfo := pool [(2, .class_ 4), (1, u "java/lang/Object"), (0, u "<init>"), (0, u "()V"), (35, .class_ 44), (1, u "java/util/Objects"), (60, .methodref 106 107), (0, .class_ 108), (0, .nameAndType 109 110), (0, u "jdk/internal/util/Preconditions"), (0, u "checkIndex"), (0, u "(IILjava/util/function/BiFunction;)I"), (60, u "(II)I")] 12

def k14m0 : Method := { name := "<init>", desc := "()V", sig := { parameters := [], returnType := none }, accessFlags := 2, code := none }
def k14c1 : Code := { maxStack := 3, maxLocals := 2, code := jdk_31_method_17_code, exceptionTable := #[], attributes := #[] }
def k14m1 : Method := { name := "checkIndex", desc := "(II)I", sig := { parameters := [.int, .int], returnType := some .int }, accessFlags := 9, code := some k14c1 }
/-- java/util/Objects -/
def k14 : Class := { plain "java/util/Objects" (some 0) with
  accessFlags := 49
  interfaces := #[]
  cf := some (fileOf pool14 42 #[] #[{ accessFlags := 2, nameIndex := 5, descriptorIndex := 6, attributes := #[] }, { accessFlags := 9, nameIndex := 109, descriptorIndex := 171, attributes := #[] }] 49 2 #[] #[])
  fields := #[]
  methods := #[k14m0, k14m1]
  instanceTypes := #[]
  staticTypes := #[]
  resolved := Array.replicate 184 none
  statics := none }

def pool15 : Array CpInfo := pool [(2, .class_ 4), (1, u "java/lang/Object"), (0, u "<init>"), (0, u "()V"), (17, .class_ 26), (1, u "jdk/internal/util/Preconditions"), (6, u "checkIndex"), (21, .class_ 56), (0, u "jdk/internal/util/Preconditions$4"), (57, .class_ 115), (0, u "jdk/internal/util/Preconditions$1"), (7, u "SIOOBE_FORMATTER"), (0, u "Ljava/util/function/BiFunction;"), (0, .class_ 126), (0, u "jdk/internal/util/Preconditions$2"), (3, u "AIOOBE_FORMATTER"), (0, .class_ 132), (0, u "jdk/internal/util/Preconditions$3"), (3, u "IOOBE_FORMATTER"), (41, u "(IILjava/util/function/BiFunction;)I")] 15

def k15m0 : Method := { name := "<init>", desc := "()V", sig := { parameters := [], returnType := none }, accessFlags := 1, code := none }
def k15c1 : Code := { maxStack := 3, maxLocals := 3, code := jdk_41_method_11_code, exceptionTable := #[], attributes := #[] }
def k15m1 : Method := { name := "checkIndex", desc := "(IILjava/util/function/BiFunction;)I", sig := { parameters := [.int, .int, (.object "java/util/function/BiFunction")], returnType := some .int }, accessFlags := 9, code := some k15c1 }
/-- jdk/internal/util/Preconditions -/
def k15 : Class := { plain "jdk/internal/util/Preconditions" (some 0) with
  accessFlags := 33
  interfaces := #[]
  cf := some (fileOf pool15 24 #[.nestMembers #[55, 131, 125, 114]] #[{ accessFlags := 1, nameIndex := 5, descriptorIndex := 6, attributes := #[] }, { accessFlags := 9, nameIndex := 33, descriptorIndex := 178, attributes := #[] }] 33 2 #[] #[{ accessFlags := 25, nameIndex := 123, descriptorIndex := 124, attributes := #[] }, { accessFlags := 25, nameIndex := 130, descriptorIndex := 124, attributes := #[] }, { accessFlags := 25, nameIndex := 136, descriptorIndex := 124, attributes := #[] }])
  fields := #[{ name := "SIOOBE_FORMATTER", type := (.object "java/util/function/BiFunction"), accessFlags := 25, slot := 0, constantValue := 0 }, { name := "AIOOBE_FORMATTER", type := (.object "java/util/function/BiFunction"), accessFlags := 25, slot := 1, constantValue := 0 }, { name := "IOOBE_FORMATTER", type := (.object "java/util/function/BiFunction"), accessFlags := 25, slot := 2, constantValue := 0 }]
  methods := #[k15m0, k15m1]
  instanceTypes := #[]
  staticTypes := #[(.object "java/util/function/BiFunction"), (.object "java/util/function/BiFunction"), (.object "java/util/function/BiFunction")]
  resolved := Array.replicate 194 none
  statics := none }

/-- the primitive byte -/
def k16 : Class := { plain "byte" none with kind := .primitive 'B', accessFlags := 0x411 }
/-- [B -/
def k17 : Class := { plain "[B" (some 0) with kind := .array 16 .byte, interfaces := #[9, 10], accessFlags := 1041 }

/-- the primitive int -/
def k18 : Class := { plain "int" none with kind := .primitive 'I', accessFlags := 0x411 }
/-- [I -/
def k19 : Class := { plain "[I" (some 0) with kind := .array 18 .int, interfaces := #[9, 10], accessFlags := 1041 }

/-- [Ljava/lang/Object; -/
def k20 : Class := { plain "[Ljava/lang/Object;" (some 0) with kind := .array 0 (.object "java/lang/Object"), interfaces := #[9, 10], accessFlags := 1041 }

def heap : Heap := #[{ cls := 11, slots := #[.long 0, .int 0, .ref 1, .ref 2], vm := .statics 11 },
  { cls := 20, slots := #[], vm := .none },
  { cls := 20, slots := #[], vm := .none }]
def classes : Array Class := #[k0, k1, k2, k3, k4, k5, k6, k7, k8, k9, k10, k11, k12, k13, k14, k15, k16, k17, k18, k19, k20]
def interned : List (Array UInt16 × Addr) := []
def slotsUsed : Nat := 4
def theMethod : MethodId := ⟨1, 1⟩
def args0 : Array Value := #[.int 5, .int 300, .int 7, .int 10]
def aboutOver (below : List Frame) : State where
  vm := { classes := classes, interned := interned.toArray }
  heap := heap
  slotsUsed := slotsUsed
  threads := #[{ frames := .invoking theMethod args0 :: below }]
def below0 : List Frame := [.native { method := ⟨0, 0⟩, args := #[] }]
def about1 : State := aboutOver below0
def p0 : Program := .bare "" "" ""
def e0 : Env := launch0.env 0 0 0
theorem w_frames : about1.frames = Frame.invoking theMethod args0 :: below0 := rfl
set_option maxRecDepth 65536 in
theorem w_args : argsFit about1.vm theMethod args0 = true := by decide +kernel
set_option maxRecDepth 65536 in
theorem w_heap : heapFits about1 = true := by decide +kernel
set_option maxRecDepth 65536 in
theorem w_runnable : about1.curStatus? = some .runnable := by decide +kernel
set_option maxRecDepth 65536 in
theorem w_alone : about1.alone = true := by decide +kernel
set_option maxRecDepth 65536 in
theorem w_named : about1.methodNamed? x = some theMethod := by decide +kernel
set_option maxRecDepth 65536 in
theorem w_hears : about1.hears theMethod below0 = true := by decide +kernel
set_option maxRecDepth 65536 in
theorem w_ripe : about1.ripe theMethod args0 below0 = true := by decide +kernel
theorem w_running : about1.status = .running := rfl
set_option maxRecDepth 65536 in
theorem w_room : about1.hasRoom e0.platform room_1 = true :=
  launch0.hasRoom_least _ room_1 (by decide +kernel) (by decide +kernel) (by decide +kernel) (by decide +kernel) (by decide +kernel) (by decide +kernel)
theorem allAtoms_all (ts : List Jvm.Cond) (a : Array Jvm.Value) (st : Jvm.State) : (allAtoms ts).before a st = ts.all (fun c => c.before a st) := by
  induction ts with
  | nil => rfl
  | cons c t ih =>
    show (Jvm.Cond.and c (allAtoms t)).before a st = _
    rw [Jvm.Cond.before_and, ih, List.all_cons]
def words1 : List Jvm.Cond := Jvm.Cond.code x code maxLocals ret :: tables_1
/-- a 'code' word, met by the world's own term for the bytes: nothing is compared byte by byte -/
theorem code_word {y : MethodName} {bytes : ByteArray} {mx : Nat} {rt : Option FieldType} {a : Array Value} {s : State} {m : MethodId} {meth : Method} {c : Code} (h1 : s.methodNamed? y = some m) (h2 : s.vm.method? m = some meth) (h3 : meth.code = some c) (h4 : c.code = bytes)
    (h5 : (c.maxLocals == mx && c.exceptionTable.isEmpty && decide (c.maxStack ≤ mostOperands) && decide (meth.sig.returnType = rt) && !meth.locks && decide (parseMethodDescriptor y.desc = some meth.sig)) = true) : (Jvm.Cond.code y bytes mx rt).before a s = true := by
  simp only [Bool.and_eq_true, beq_iff_eq, Bool.not_eq_true', decide_eq_true_eq] at h5
  obtain ⟨⟨⟨⟨⟨g1, g2⟩, g3⟩, g4⟩, g5⟩, g6⟩ := h5
  simp [Cond.before, Cond.holds, Cond.value, h1, h2, h3, h4, g1, g2, g3, g4, g5, g6]
def isCode : Jvm.Cond → Bool
  | .code _ _ _ _ => true
  | _ => false
theorem all_split {L : List Jvm.Cond} {P : Jvm.Cond → Bool} (h1 : L.all (fun c => isCode c || P c) = true) (h2 : ∀ c ∈ L.filter isCode, P c = true) : L.all P = true := by
  refine List.all_eq_true.mpr fun c hc => ?_
  have h := List.all_eq_true.mp h1 c hc
  rcases Bool.eq_false_or_eq_true (isCode c) with hi | hi
  · exact h2 c (List.mem_filter.mpr ⟨hc, hi⟩)
  · simpa [hi] using h
set_option maxRecDepth 65536 in
theorem w_c0 : (Jvm.Cond.code x code maxLocals ret).before args0 about1 = true := code_word (m := ⟨1, 1⟩) (meth := k1m1) (c := k1c1) (by decide +kernel) rfl rfl rfl (by decide +kernel)
set_option maxRecDepth 65536 in
theorem w_c1 : (Jvm.Cond.code ({ cls := "java/util/ArrayList", name := "<init>", desc := "()V" } : Jvm.MethodName) jdk_38_method_2_code (1 : Nat) (Option.none : Option Jvm.ClassFile.FieldType)).before args0 about1 = true := code_word (m := ⟨11, 0⟩) (meth := k11m0) (c := k11c0) (by decide +kernel) rfl rfl rfl (by decide +kernel)
set_option maxRecDepth 65536 in
theorem w_c2 : (Jvm.Cond.code ({ cls := "java/util/AbstractList", name := "<init>", desc := "()V" } : Jvm.MethodName) jdk_39_method_1_code (1 : Nat) (Option.none : Option Jvm.ClassFile.FieldType)).before args0 about1 = true := code_word (m := ⟨7, 0⟩) (meth := k7m0) (c := k7c0) (by decide +kernel) rfl rfl rfl (by decide +kernel)
set_option maxRecDepth 65536 in
theorem w_c3 : (Jvm.Cond.code ({ cls := "java/util/AbstractCollection", name := "<init>", desc := "()V" } : Jvm.MethodName) jdk_22_method_1_code (1 : Nat) (Option.none : Option Jvm.ClassFile.FieldType)).before args0 about1 = true := code_word (m := ⟨4, 0⟩) (meth := k4m0) (c := k4c0) (by decide +kernel) rfl rfl rfl (by decide +kernel)
set_option maxRecDepth 65536 in
theorem w_c4 : (Jvm.Cond.code ({ cls := "java/lang/Object", name := "<init>", desc := "()V" } : Jvm.MethodName) object_method_1_code (1 : Nat) (Option.none : Option Jvm.ClassFile.FieldType)).before args0 about1 = true := code_word (m := ⟨0, 0⟩) (meth := k0m0) (c := k0c0) (by decide +kernel) rfl rfl rfl (by decide +kernel)
set_option maxRecDepth 65536 in
theorem w_c5 : (Jvm.Cond.code ({ cls := "java/util/ArrayList", name := "add", desc := "(Ljava/lang/Object;)Z" } : Jvm.MethodName) jdk_38_method_25_code (2 : Nat) (Option.some Jvm.ClassFile.FieldType.boolean)).before args0 about1 = true := code_word (m := ⟨11, 6⟩) (meth := k11m6) (c := k11c6) (by decide +kernel) rfl rfl rfl (by decide +kernel)
set_option maxRecDepth 65536 in
theorem w_c6 : (Jvm.Cond.code ({ cls := "java/util/ArrayList", name := "add", desc := "(Ljava/lang/Object;[Ljava/lang/Object;I)V" } : Jvm.MethodName) jdk_38_method_24_code (4 : Nat) (Option.none : Option Jvm.ClassFile.FieldType)).before args0 about1 = true := code_word (m := ⟨11, 5⟩) (meth := k11m5) (c := k11c5) (by decide +kernel) rfl rfl rfl (by decide +kernel)
set_option maxRecDepth 65536 in
theorem w_c7 : (Jvm.Cond.code ({ cls := "java/util/ArrayList", name := "grow", desc := "()[Ljava/lang/Object;" } : Jvm.MethodName) jdk_38_method_7_code (1 : Nat) (Option.some (Jvm.ClassFile.FieldType.array (Jvm.ClassFile.FieldType.object "java/lang/Object")))).before args0 about1 = true := code_word (m := ⟨11, 2⟩) (meth := k11m2) (c := k11c2) (by decide +kernel) rfl rfl rfl (by decide +kernel)
set_option maxRecDepth 65536 in
theorem w_c8 : (Jvm.Cond.code ({ cls := "java/util/ArrayList", name := "grow", desc := "(I)[Ljava/lang/Object;" } : Jvm.MethodName) jdk_38_method_6_code (4 : Nat) (Option.some (Jvm.ClassFile.FieldType.array (Jvm.ClassFile.FieldType.object "java/lang/Object")))).before args0 about1 = true := code_word (m := ⟨11, 1⟩) (meth := k11m1) (c := k11c1) (by decide +kernel) rfl rfl rfl (by decide +kernel)
set_option maxRecDepth 65536 in
theorem w_c9 : (Jvm.Cond.code ({ cls := "java/lang/Math", name := "max", desc := "(II)I" } : Jvm.MethodName) jdk_29_method_65_code (2 : Nat) (Option.some Jvm.ClassFile.FieldType.int)).before args0 about1 = true := code_word (m := ⟨12, 1⟩) (meth := k12m1) (c := k12c1) (by decide +kernel) rfl rfl rfl (by decide +kernel)
set_option maxRecDepth 65536 in
theorem w_c10 : (Jvm.Cond.code ({ cls := "com/example/covering/covering/server/Request", name := "<init>", desc := "(Ljava/util/List;)V" } : Jvm.MethodName) prog_14_method_1_code (2 : Nat) (Option.none : Option Jvm.ClassFile.FieldType)).before args0 about1 = true := code_word (m := ⟨13, 0⟩) (meth := k13m0) (c := k13c0) (by decide +kernel) rfl rfl rfl (by decide +kernel)
set_option maxRecDepth 65536 in
theorem w_c11 : (Jvm.Cond.code ({ cls := "com/example/covering/covering/server/Request", name := "word", desc := "(I)[B" } : Jvm.MethodName) prog_14_method_4_code (2 : Nat) (Option.some (Jvm.ClassFile.FieldType.array Jvm.ClassFile.FieldType.byte))).before args0 about1 = true := code_word (m := ⟨13, 1⟩) (meth := k13m1) (c := k13c1) (by decide +kernel) rfl rfl rfl (by decide +kernel)
set_option maxRecDepth 65536 in
theorem w_c12 : (Jvm.Cond.code ({ cls := "java/util/ArrayList", name := "get", desc := "(I)Ljava/lang/Object;" } : Jvm.MethodName) jdk_38_method_20_code (2 : Nat) (Option.some (Jvm.ClassFile.FieldType.object "java/lang/Object"))).before args0 about1 = true := code_word (m := ⟨11, 4⟩) (meth := k11m4) (c := k11c4) (by decide +kernel) rfl rfl rfl (by decide +kernel)
set_option maxRecDepth 65536 in
theorem w_c13 : (Jvm.Cond.code ({ cls := "java/util/Objects", name := "checkIndex", desc := "(II)I" } : Jvm.MethodName) jdk_31_method_17_code (2 : Nat) (Option.some Jvm.ClassFile.FieldType.int)).before args0 about1 = true := code_word (m := ⟨14, 1⟩) (meth := k14m1) (c := k14c1) (by decide +kernel) rfl rfl rfl (by decide +kernel)
set_option maxRecDepth 65536 in
theorem w_c14 : (Jvm.Cond.code ({ cls := "jdk/internal/util/Preconditions", name := "checkIndex", desc := "(IILjava/util/function/BiFunction;)I" } : Jvm.MethodName) jdk_41_method_11_code (3 : Nat) (Option.some Jvm.ClassFile.FieldType.int)).before args0 about1 = true := code_word (m := ⟨15, 1⟩) (meth := k15m1) (c := k15c1) (by decide +kernel) rfl rfl rfl (by decide +kernel)
set_option maxRecDepth 65536 in
theorem w_c15 : (Jvm.Cond.code ({ cls := "java/util/ArrayList", name := "elementData", desc := "(I)Ljava/lang/Object;" } : Jvm.MethodName) jdk_38_method_18_code (2 : Nat) (Option.some (Jvm.ClassFile.FieldType.object "java/lang/Object"))).before args0 about1 = true := code_word (m := ⟨11, 3⟩) (meth := k11m3) (c := k11c3) (by decide +kernel) rfl rfl rfl (by decide +kernel)
def codes1 : List Jvm.Cond := [Jvm.Cond.code x code maxLocals ret, Jvm.Cond.code ({ cls := "java/util/ArrayList", name := "<init>", desc := "()V" } : Jvm.MethodName) jdk_38_method_2_code (1 : Nat) (Option.none : Option Jvm.ClassFile.FieldType), Jvm.Cond.code ({ cls := "java/util/AbstractList", name := "<init>", desc := "()V" } : Jvm.MethodName) jdk_39_method_1_code (1 : Nat) (Option.none : Option Jvm.ClassFile.FieldType), Jvm.Cond.code ({ cls := "java/util/AbstractCollection", name := "<init>", desc := "()V" } : Jvm.MethodName) jdk_22_method_1_code (1 : Nat) (Option.none : Option Jvm.ClassFile.FieldType), Jvm.Cond.code ({ cls := "java/lang/Object", name := "<init>", desc := "()V" } : Jvm.MethodName) object_method_1_code (1 : Nat) (Option.none : Option Jvm.ClassFile.FieldType), Jvm.Cond.code ({ cls := "java/util/ArrayList", name := "add", desc := "(Ljava/lang/Object;)Z" } : Jvm.MethodName) jdk_38_method_25_code (2 : Nat) (Option.some Jvm.ClassFile.FieldType.boolean), Jvm.Cond.code ({ cls := "java/util/ArrayList", name := "add", desc := "(Ljava/lang/Object;[Ljava/lang/Object;I)V" } : Jvm.MethodName) jdk_38_method_24_code (4 : Nat) (Option.none : Option Jvm.ClassFile.FieldType), Jvm.Cond.code ({ cls := "java/util/ArrayList", name := "grow", desc := "()[Ljava/lang/Object;" } : Jvm.MethodName) jdk_38_method_7_code (1 : Nat) (Option.some (Jvm.ClassFile.FieldType.array (Jvm.ClassFile.FieldType.object "java/lang/Object"))), Jvm.Cond.code ({ cls := "java/util/ArrayList", name := "grow", desc := "(I)[Ljava/lang/Object;" } : Jvm.MethodName) jdk_38_method_6_code (4 : Nat) (Option.some (Jvm.ClassFile.FieldType.array (Jvm.ClassFile.FieldType.object "java/lang/Object"))), Jvm.Cond.code ({ cls := "java/lang/Math", name := "max", desc := "(II)I" } : Jvm.MethodName) jdk_29_method_65_code (2 : Nat) (Option.some Jvm.ClassFile.FieldType.int), Jvm.Cond.code ({ cls := "com/example/covering/covering/server/Request", name := "<init>", desc := "(Ljava/util/List;)V" } : Jvm.MethodName) prog_14_method_1_code (2 : Nat) (Option.none : Option Jvm.ClassFile.FieldType), Jvm.Cond.code ({ cls := "com/example/covering/covering/server/Request", name := "word", desc := "(I)[B" } : Jvm.MethodName) prog_14_method_4_code (2 : Nat) (Option.some (Jvm.ClassFile.FieldType.array Jvm.ClassFile.FieldType.byte)), Jvm.Cond.code ({ cls := "java/util/ArrayList", name := "get", desc := "(I)Ljava/lang/Object;" } : Jvm.MethodName) jdk_38_method_20_code (2 : Nat) (Option.some (Jvm.ClassFile.FieldType.object "java/lang/Object")), Jvm.Cond.code ({ cls := "java/util/Objects", name := "checkIndex", desc := "(II)I" } : Jvm.MethodName) jdk_31_method_17_code (2 : Nat) (Option.some Jvm.ClassFile.FieldType.int), Jvm.Cond.code ({ cls := "jdk/internal/util/Preconditions", name := "checkIndex", desc := "(IILjava/util/function/BiFunction;)I" } : Jvm.MethodName) jdk_41_method_11_code (3 : Nat) (Option.some Jvm.ClassFile.FieldType.int), Jvm.Cond.code ({ cls := "java/util/ArrayList", name := "elementData", desc := "(I)Ljava/lang/Object;" } : Jvm.MethodName) jdk_38_method_18_code (2 : Nat) (Option.some (Jvm.ClassFile.FieldType.object "java/lang/Object"))]
set_option maxRecDepth 65536 in
theorem codes_eq : words1.filter isCode = codes1 := rfl
theorem w_codes : ∀ c ∈ words1.filter isCode, c.before args0 about1 = true := by
  rw [codes_eq]
  intro c hc
  simp only [codes1, List.mem_cons, List.not_mem_nil, or_false] at hc
  rcases hc with rfl | rfl | rfl | rfl | rfl | rfl | rfl | rfl | rfl | rfl | rfl | rfl | rfl | rfl | rfl | rfl
  · exact w_c0
  · exact w_c1
  · exact w_c2
  · exact w_c3
  · exact w_c4
  · exact w_c5
  · exact w_c6
  · exact w_c7
  · exact w_c8
  · exact w_c9
  · exact w_c10
  · exact w_c11
  · exact w_c12
  · exact w_c13
  · exact w_c14
  · exact w_c15
set_option maxRecDepth 65536 in
theorem w_t1 : (words1.take 24).all (fun c => isCode c || c.before args0 about1) = true := by decide +kernel
set_option maxRecDepth 65536 in
theorem w_t2 : ((words1.drop 24).take 24).all (fun c => isCode c || c.before args0 about1) = true := by decide +kernel
set_option maxRecDepth 65536 in
theorem w_t3 : (((words1.drop 24).drop 24).take 24).all (fun c => isCode c || c.before args0 about1) = true := by decide +kernel
set_option maxRecDepth 65536 in
theorem w_t4 : ((((words1.drop 24).drop 24).drop 24).take 24).all (fun c => isCode c || c.before args0 about1) = true := by decide +kernel
set_option maxRecDepth 65536 in
theorem w_t5 : ((((words1.drop 24).drop 24).drop 24).drop 24).all (fun c => isCode c || c.before args0 about1) = true := by decide +kernel
theorem w_tables : (allAtoms (Jvm.Cond.code x code maxLocals ret :: tables_1)).before args0 about1 = true := by
  rw [allAtoms_all]
  show words1.all (fun c => c.before args0 about1) = true
  refine all_split ?_ w_codes
  rw [← List.take_append_drop 24 words1, List.all_append, w_t1, ← List.take_append_drop 24 (words1.drop 24), List.all_append, w_t2, ← List.take_append_drop 24 ((words1.drop 24).drop 24), List.all_append, w_t3, ← List.take_append_drop 24 (((words1.drop 24).drop 24).drop 24), List.all_append, w_t4, w_t5]
  rfl
set_option maxRecDepth 65536 in
theorem w_rest : rest_1_c.before args0 about1 = true := by decide +kernel
set_option maxRecDepth 65536 in
theorem w_case : (Jvm.Cond.and given_1 narrow_1).before args0 about1 = true := by decide +kernel
theorem w_applies : (headSpec (Jvm.Cond.code x code maxLocals ret :: tables_1) room_1).applies x e0.platform about1 = true :=
  (Spec.applies_iff w_frames).mpr ⟨w_running, w_runnable, w_alone, w_named, w_hears, w_ripe, w_room, w_tables⟩
theorem atStart : AtStart classFile x code maxLocals ret World_1 tables_1 room_1 Calls_1 rest_1 Pre_1 launch0 p0 e0 about1 theMethod args0 below0 :=
  ⟨lists_1, trivial, launch0.admits_env _ _ _, launch0.least_env, fairChoices_fair.cas, fairChoices_fair.clock, w_frames, w_args, w_heap, w_applies, trivial, w_rest, w_case⟩
end start1
theorem witness_1 : WitnessClaimed_1 := ⟨start1.p0, start1.e0, start1.about1, start1.theMethod, start1.args0, start1.below0, start1.atStart⟩
end Jvm.Pilot.@@N@@

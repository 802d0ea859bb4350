import JvmDerived
import JvmDerived.Pilot.@@N@@Statement
import JvmDerived.Pilot.@@N@@Code
set_option linter.unusedVariables false
set_option linter.unusedSimpArgs false
namespace Jvm.Pilot.@@N@@
open Jvm Jvm.ClassFile Sem Op Lib Jvm.Free Jvm.Stand Jvm.LawKit Jvm.RoadKit Bundle Jvm.Pilot.@@N@@.Jvm.D
def Go (p : Program) (e : Env) (below : List Frame) (s : State) (Q : Option Value → Heap → List Loc → Prop) (C S : Nat) (V : State) : Prop :=
  ∃ (U : State) (o : Outcome), Steps p.tables e below V U ∧ U.status = .running ∧ Ended U below o ∧ ∃ v L, o = .returned v ∧ Q v U.heap L ∧ FrameEnd s o U L C S
def Ga (p : Program) (e : Env) (below : List Frame) (s : State) (Q : Option Value → Heap → List Loc → Prop) (C S : Nat) (T : State) (m : MethodId) (pc : Nat) (Ls : Array Slot) (st : List Value) : Prop :=
  Go p e below s Q C S (T.setTop (mkF m pc Ls st))
abbrev Ct (l : Launch) (Z : State) (y : MethodName) (bytes : ByteArray) (maxL : Nat) (ret : Option FieldType) (ws : List Jvm.Cond) (rm : Room) (as' : Array Value) (h0 : Heap) (Q : Option Value → Heap → List Loc → Prop) : Prop :=
  MetFree l y (head1 (Jvm.Cond.code y bytes maxL ret :: ws) rm) (fun a U => a = as' ∧ Z.Warmed39 U.vm ∧ U.heap = h0) (fun _ _ _ _ _ => True) (fun _ U o U' => ∃ v L, o = .returned v ∧ Q v U'.heap L ∧ FrameEnd U o U' L rm.cells rm.slots)
section GoKit
variable {p : Program} {l : Launch} {e : Env} {R : Room} {s : State} {m : MethodId} {args : Array Value} {below : List Frame} {meth : Method} {c : Code} {T T' : State} {locs : List Loc} {cells slots : Nat} {Q : Option Value → Heap → List Loc → Prop} {C S : Nat} {Z : State} {a0 : Array Value} {h : Heap} {pc q pc' : Nat} {Ls Ls' : Array Slot} {st st' : List Value} {own : String}
theorem Ga.stp (k : ∀ t, Steps p.tables e below (T'.setTop (mkF m pc' Ls' st')) t → Steps p.tables e below (T.setTop (mkF m pc Ls st)) t) (g : Ga p e below s Q C S T' m pc' Ls' st') : Ga p e below s Q C S T m pc Ls st := by
  obtain ⟨U, o, h, r⟩ := g
  exact ⟨U, o, k _ h, r⟩
theorem own_body {y : MethodName} {bytes : ByteArray} {maxL : Nat} {ret : Option FieldType} {ws : List Jvm.Cond} {rm : Room} {h0 : Heap} {as' : Array Value} (hpl : plainFor y = true) (hef : ∀ m, entryFrame m as' maxL = mkF m 0 Ls [])
    (body : ∀ (p : Program) (e : Env) (s : State) (m : MethodId) (below : List Frame) (meth : Method) (c : Code) (T : State), p.tables.exec = Jvm.exec → c.code = bytes → c.maxLocals = maxL → Z.Warmed39 s.vm → s.vm.findClass y.cls = some m.cls → meth.name = y.name → meth.sig.returnType = ret → meth.locks = false →
      Stand p l e rm s m as' below meth c T [] 0 0 → T.heap = h0 → Ga p e below s Q rm.cells rm.slots T m 0 Ls []) : Ct l Z y bytes maxL ret ws rm as' h0 Q := by
  refine MetFree.of_bodySF hpl hisR ?_
  intro p e s m args below meth c s₁ Bd hml0 hP hK
  obtain ⟨rfl, hZ, hh⟩ := hP
  have X0 : Stand p l e rm s m args below meth c s₁ [] 0 0 := Stand.of_body Bd
  have e0 : s₁.heap = h0 := by rw [← hh, Bd.state]; rfl
  obtain ⟨U, o, g1, g2⟩ := body p e s m below meth c s₁ Bd.exec Bd.bytes hml0 hZ (findClass_of_methodNamed Bd.named) (name_of_methodNamed Bd.named Bd.method).1 Bd.returns (BodyLoose.notSynchronized Bd) X0 e0
  exact ⟨U, o, castTop (hef m) g1, g2⟩
theorem Ga.out (X : Stand p l e R s m args below meth c T locs cells slots) {v : Option Value} (hlk : meth.locks = false) (hv : meth.sig.returnType = none → v = none) (hc : cells ≤ C) (hs : slots ≤ S) (hq : Q v T.heap locs)
    (k : ∀ fs, (∀ (f : JFrame) (acts : List Action), f.method = m → f.locked = none → f.entered = [] → (doReturn e (T.setTop f) acts v).1 = T.setFrames fs) → Steps p.tables e below (T.setTop (mkF m pc Ls st)) (T.setFrames fs)) : Ga p e below s Q C S T m pc Ls st := by
  obtain ⟨fs, hr, hrun, hended, hW, hsame⟩ := X.leave (v := v) hv hlk
  exact ⟨_, _, k fs hr, hrun, hended, _, _, rfl, hq, ⟨_, rfl⟩, hW, hsame.mono hc hs⟩
theorem g_iloadN (X : Stand p l e R s m args below meth c T locs cells slots) (hx : p.tables.exec = Jvm.exec) {k : Fin 4} {v : Int32} (hd : decode c.code pc = .ok (.iload_n k, 1)) (hp : pc + 1 = q) (hl : Ls[k.val]? = some (.val (.int v))) (g : Ga p e below s Q C S T m q Ls (.int v :: st)) : Ga p e below s Q C S T m pc Ls st := by
  subst hp
  exact Ga.stp (fun _ k => XS.iloadN X.here hx rfl hd hl k) g
theorem g_iload (X : Stand p l e R s m args below meth c T locs cells slots) (hx : p.tables.exec = Jvm.exec) {k : Nat} {v : Int32} (hd : decode c.code pc = .ok (.iload k, 2)) (hp : pc + 2 = q) (hl : Ls[k]? = some (.val (.int v))) (g : Ga p e below s Q C S T m q Ls (.int v :: st)) : Ga p e below s Q C S T m pc Ls st := by
  subst hp
  exact Ga.stp (fun _ k => XS.iload X.here hx rfl hd hl k) g
theorem g_aloadN (X : Stand p l e R s m args below meth c T locs cells slots) (hx : p.tables.exec = Jvm.exec) {k : Fin 4} {v : Value} (hd : decode c.code pc = .ok (.aload_n k, 1)) (hp : pc + 1 = q) (hl : Ls[k.val]? = some (.val v)) (hv : v.isRef = true) (g : Ga p e below s Q C S T m q Ls (v :: st)) : Ga p e below s Q C S T m pc Ls st := by
  subst hp
  exact Ga.stp (fun _ k => XS.aloadN X.here hx rfl hd hl hv k) g
theorem g_aload (X : Stand p l e R s m args below meth c T locs cells slots) (hx : p.tables.exec = Jvm.exec) {k : Nat} {v : Value} (hd : decode c.code pc = .ok (.aload k, 2)) (hp : pc + 2 = q) (hl : Ls[k]? = some (.val v)) (hv : v.isRef = true) (g : Ga p e below s Q C S T m q Ls (v :: st)) : Ga p e below s Q C S T m pc Ls st := by
  subst hp
  exact Ga.stp (fun _ k => XS.aload X.here hx rfl hd hl hv k) g
theorem g_istoreN (X : Stand p l e R s m args below meth c T locs cells slots) (hx : p.tables.exec = Jvm.exec) {k : Fin 4} {x : Int32} (hd : decode c.code pc = .ok (.istore_n k, 1)) (hp : pc + 1 = q) (hl : storeLocals Ls k.val (.int x) = some Ls') (g : Ga p e below s Q C S T m q Ls' st) : Ga p e below s Q C S T m pc Ls (.int x :: st) := by
  subst hp
  exact Ga.stp (fun _ k => XS.istoreN X.here hx rfl hd rfl hl k) g
theorem g_istore (X : Stand p l e R s m args below meth c T locs cells slots) (hx : p.tables.exec = Jvm.exec) {k : Nat} {x : Int32} (hd : decode c.code pc = .ok (.istore k, 2)) (hp : pc + 2 = q) (hl : storeLocals Ls k (.int x) = some Ls') (g : Ga p e below s Q C S T m q Ls' st) : Ga p e below s Q C S T m pc Ls (.int x :: st) := by
  subst hp
  exact Ga.stp (fun _ k => XS.istore X.here hx rfl hd rfl hl k) g
theorem g_astoreN (X : Stand p l e R s m args below meth c T locs cells slots) (hx : p.tables.exec = Jvm.exec) {k : Fin 4} {x : Value} (hd : decode c.code pc = .ok (.astore_n k, 1)) (hp : pc + 1 = q) (hv : x.isRef = true) (hl : storeLocals Ls k.val x = some Ls') (g : Ga p e below s Q C S T m q Ls' st) : Ga p e below s Q C S T m pc Ls (x :: st) := by
  subst hp
  exact Ga.stp (fun _ k => XS.astoreN X.here hx rfl hd rfl hv hl k) g
theorem g_astore (X : Stand p l e R s m args below meth c T locs cells slots) (hx : p.tables.exec = Jvm.exec) {k : Nat} {x : Value} (hd : decode c.code pc = .ok (.astore k, 2)) (hp : pc + 2 = q) (hv : x.isRef = true) (hl : storeLocals Ls k x = some Ls') (g : Ga p e below s Q C S T m q Ls' st) : Ga p e below s Q C S T m pc Ls (x :: st) := by
  subst hp
  exact Ga.stp (fun _ k => XS.astore X.here hx rfl hd rfl hv hl k) g
theorem g_iconst (X : Stand p l e R s m args below meth c T locs cells slots) (hx : p.tables.exec = Jvm.exec) {i : Int} {r : Int32} (hd : decode c.code pc = .ok (.iconst i, 1)) (hp : pc + 1 = q) (hr : Int32.ofInt i = r) (g : Ga p e below s Q C S T m q Ls (.int r :: st)) : Ga p e below s Q C S T m pc Ls st := by
  subst hp hr
  exact Ga.stp (fun _ k => XS.iconst X.here hx rfl hd k) g
theorem g_bipush (X : Stand p l e R s m args below meth c T locs cells slots) (hx : p.tables.exec = Jvm.exec) {i : Int} {r : Int32} (hd : decode c.code pc = .ok (.bipush i, 2)) (hp : pc + 2 = q) (hr : (Int8.ofInt i).toInt32 = r) (g : Ga p e below s Q C S T m q Ls (.int r :: st)) : Ga p e below s Q C S T m pc Ls st := by
  subst hp hr
  exact Ga.stp (fun _ k => XS.bipush X.here hx rfl hd k) g
theorem g_aconst_null (X : Stand p l e R s m args below meth c T locs cells slots) (hx : p.tables.exec = Jvm.exec) (hd : decode c.code pc = .ok (.aconst_null, 1)) (hp : pc + 1 = q)  (g : Ga p e below s Q C S T m q Ls (.null :: st)) : Ga p e below s Q C S T m pc Ls st := by
  subst hp
  exact Ga.stp (fun _ k => XS.aconstNull X.here hx rfl hd k) g
theorem g_iadd (X : Stand p l e R s m args below meth c T locs cells slots) (hx : p.tables.exec = Jvm.exec) {x y r : Int32} (hd : decode c.code pc = .ok (.iadd, 1)) (hp : pc + 1 = q) (hr : x + y = r) (g : Ga p e below s Q C S T m q Ls (.int r :: st)) : Ga p e below s Q C S T m pc Ls (.int y :: .int x :: st) := by
  subst hp hr
  exact Ga.stp (fun _ k => XS.iadd X.here hx rfl hd rfl k) g
theorem g_iand (X : Stand p l e R s m args below meth c T locs cells slots) (hx : p.tables.exec = Jvm.exec) {x y r : Int32} (hd : decode c.code pc = .ok (.iand, 1)) (hp : pc + 1 = q) (hr : x &&& y = r) (g : Ga p e below s Q C S T m q Ls (.int r :: st)) : Ga p e below s Q C S T m pc Ls (.int y :: .int x :: st) := by
  subst hp hr
  exact Ga.stp (fun _ k => XS.iand X.here hx rfl hd rfl k) g
theorem g_ixor (X : Stand p l e R s m args below meth c T locs cells slots) (hx : p.tables.exec = Jvm.exec) {x y r : Int32} (hd : decode c.code pc = .ok (.ixor, 1)) (hp : pc + 1 = q) (hr : x ^^^ y = r) (g : Ga p e below s Q C S T m q Ls (.int r :: st)) : Ga p e below s Q C S T m pc Ls (.int y :: .int x :: st) := by
  subst hp hr
  exact Ga.stp (fun _ k => XS.ixor X.here hx rfl hd rfl k) g
theorem g_iushr (X : Stand p l e R s m args below meth c T locs cells slots) (hx : p.tables.exec = Jvm.exec) {x y r : Int32} (hd : decode c.code pc = .ok (.iushr, 1)) (hp : pc + 1 = q) (hr : (x.toUInt32 >>> (y &&& 31).toUInt32).toInt32 = r) (g : Ga p e below s Q C S T m q Ls (.int r :: st)) : Ga p e below s Q C S T m pc Ls (.int y :: .int x :: st) := by
  subst hp hr
  exact Ga.stp (fun _ k => XS.iushr X.here hx rfl hd rfl k) g
theorem g_i2b (X : Stand p l e R s m args below meth c T locs cells slots) (hx : p.tables.exec = Jvm.exec) {x : Int32} {r : Int32} (hd : decode c.code pc = .ok (.i2b, 1)) (hp : pc + 1 = q) (hr : x.toInt8.toInt32 = r) (g : Ga p e below s Q C S T m q Ls (.int r :: st)) : Ga p e below s Q C S T m pc Ls (.int x :: st) := by
  subst hp hr
  exact Ga.stp (fun _ k => XS.i2b X.here hx rfl hd rfl k) g
theorem g_pop (X : Stand p l e R s m args below meth c T locs cells slots) (hx : p.tables.exec = Jvm.exec) {x : Value} (hd : decode c.code pc = .ok (.pop, 1)) (hp : pc + 1 = q) (hc : x.category = 1) (g : Ga p e below s Q C S T m q Ls st) : Ga p e below s Q C S T m pc Ls (x :: st) := by
  subst hp
  exact Ga.stp (fun _ k => XS.pop X.here hx rfl hd rfl hc k) g
theorem g_dup (X : Stand p l e R s m args below meth c T locs cells slots) (hx : p.tables.exec = Jvm.exec) {x : Value} (hd : decode c.code pc = .ok (.dup, 1)) (hp : pc + 1 = q) (hc : x.category = 1) (g : Ga p e below s Q C S T m q Ls (x :: x :: st)) : Ga p e below s Q C S T m pc Ls (x :: st) := by
  subst hp
  exact Ga.stp (fun _ k => XS.dup X.here hx rfl hd rfl hc k) g
theorem g_dup_x1 (X : Stand p l e R s m args below meth c T locs cells slots) (hx : p.tables.exec = Jvm.exec) {x y : Value} (hd : decode c.code pc = .ok (.dup_x1, 1)) (hp : pc + 1 = q) (hc : x.category = 1) (hc' : y.category = 1) (g : Ga p e below s Q C S T m q Ls (x :: y :: x :: st)) : Ga p e below s Q C S T m pc Ls (x :: y :: st) := by
  subst hp
  exact Ga.stp (fun _ k => XS.dupX1 X.here hx rfl hd rfl hc hc' k) g
theorem g_goto (X : Stand p l e R s m args below meth c T locs cells slots) (hx : p.tables.exec = Jvm.exec) {o : Int} (hd : decode c.code pc = .ok (.goto o, 3)) (ho : 0 ≤ (pc : Int) + o) (hp : ((pc : Int) + o).toNat = q) (g : Ga p e below s Q C S T m q Ls st) : Ga p e below s Q C S T m pc Ls st :=
  Ga.stp (fun _ k => XS.goto X.here hx rfl rfl hd ho hp k) g
theorem g_ifY (X : Stand p l e R s m args below meth c T locs cells slots) (hx : p.tables.exec = Jvm.exec) {cd : ClassFile.Cond} {x : Int32} {o : Int} (hd : decode c.code pc = .ok (.ifCond cd o, 3)) (hc : ifCond.holds cd x = true) (ho : 0 ≤ (pc : Int) + o) (hp : ((pc : Int) + o).toNat = q) (g : Ga p e below s Q C S T m q Ls st) : Ga p e below s Q C S T m pc Ls (.int x :: st) :=
  Ga.stp (fun _ k => XS.ifYes X.here hx rfl rfl hd rfl hc ho hp k) g
theorem g_ifN (X : Stand p l e R s m args below meth c T locs cells slots) (hx : p.tables.exec = Jvm.exec) {cd : ClassFile.Cond} {x : Int32} {o : Int} (hd : decode c.code pc = .ok (.ifCond cd o, 3)) (hp : pc + 3 = q) (hc : ifCond.holds cd x = false) (g : Ga p e below s Q C S T m q Ls st) : Ga p e below s Q C S T m pc Ls (.int x :: st) := by
  subst hp
  exact Ga.stp (fun _ k => XS.ifNo X.here hx rfl hd rfl hc k) g
theorem g_icmpY (X : Stand p l e R s m args below meth c T locs cells slots) (hx : p.tables.exec = Jvm.exec) {cd : ClassFile.Cond} {x y : Int32} {o : Int} (hd : decode c.code pc = .ok (.if_icmp cd o, 3)) (hc : if_icmp.holds cd x y = true) (ho : 0 ≤ (pc : Int) + o) (hp : ((pc : Int) + o).toNat = q) (g : Ga p e below s Q C S T m q Ls st) : Ga p e below s Q C S T m pc Ls (.int y :: .int x :: st) :=
  Ga.stp (fun _ k => XS.icmpYes X.here hx rfl rfl hd rfl hc ho hp k) g
theorem g_icmpN (X : Stand p l e R s m args below meth c T locs cells slots) (hx : p.tables.exec = Jvm.exec) {cd : ClassFile.Cond} {x y : Int32} {o : Int} (hd : decode c.code pc = .ok (.if_icmp cd o, 3)) (hp : pc + 3 = q) (hc : if_icmp.holds cd x y = false) (g : Ga p e below s Q C S T m q Ls st) : Ga p e below s Q C S T m pc Ls (.int y :: .int x :: st) := by
  subst hp
  exact Ga.stp (fun _ k => XS.icmpNo X.here hx rfl hd rfl hc k) g
theorem g_ifnullN (X : Stand p l e R s m args below meth c T locs cells slots) (hx : p.tables.exec = Jvm.exec) {b : Addr} {o : Int} (hd : decode c.code pc = .ok (.ifnull o, 3)) (hp : pc + 3 = q)  (g : Ga p e below s Q C S T m q Ls st) : Ga p e below s Q C S T m pc Ls ((.ref b) :: st) := by
  subst hp
  exact Ga.stp (fun _ k => XS.ifnullNo X.here hx rfl hd rfl k) g
theorem g_ifnonnullY (X : Stand p l e R s m args below meth c T locs cells slots) (hx : p.tables.exec = Jvm.exec) {b : Addr} {o : Int} (hd : decode c.code pc = .ok (.ifnonnull o, 3)) (ho : 0 ≤ (pc : Int) + o) (hp : ((pc : Int) + o).toNat = q) (g : Ga p e below s Q C S T m q Ls st) : Ga p e below s Q C S T m pc Ls ((.ref b) :: st) :=
  Ga.stp (fun _ k => XS.ifnonnullYes X.here hx rfl rfl hd rfl ho hp k) g
theorem g_acmp (X : Stand p l e R s m args below meth c T locs cells slots) (hx : p.tables.exec = Jvm.exec) {cd : ClassFile.ACond} {x y : Value} {o : Int} {same : Bool} (hd : decode c.code pc = .ok (.if_acmp cd o, 3)) (h1 : x.isRef = true) (h2 : y.isRef = true) (hq : decide (x = y) = same) (ho : 0 ≤ (pc : Int) + o) (hp : q = if acV cd same = true then ((pc : Int) + o).toNat else pc + 3) (g : Ga p e below s Q C S T m q Ls st) : Ga p e below s Q C S T m pc Ls (y :: x :: st) :=
  Ga.stp (fun _ k => Jvm.RoadKit.acmp (g := mkF m pc Ls (y :: x :: st)) X hx rfl h1 h2 rfl hd rfl hq ho hp k) g
theorem g_retI (X : Stand p l e R s m args below meth c T locs cells slots) (hx : p.tables.exec = Jvm.exec) {z : Int32} (hret : meth.sig.returnType = some .int) (hlk : meth.locks = false) (hd : decode c.code pc = .ok (.ireturn, 1)) (hc : cells ≤ C) (hs : slots ≤ S) (hq : Q (some (.int z)) T.heap locs) : Ga p e below s Q C S T m pc Ls (.int z :: st) :=
  Ga.out X hlk (fun h => by rw [hret] at h; cases h) hc hs hq fun fs hr => retOut X hx hret rfl (Or.inl ⟨rfl, Or.inl rfl, z, rfl⟩) hd hr
theorem g_retN (X : Stand p l e R s m args below meth c T locs cells slots) (hx : p.tables.exec = Jvm.exec) {z r : Int32} {t : FieldType} (hret : meth.sig.returnType = some t) (ht : t = .boolean ∨ t = .byte ∨ t = .char ∨ t = .short) (hlk : meth.locks = false) (hd : decode c.code pc = .ok (.ireturn, 1)) (hr : nar t z = r) (hc : cells ≤ C) (hs : slots ≤ S) (hq : Q (some (.int r)) T.heap locs) : Ga p e below s Q C S T m pc Ls (.int z :: st) := by
  subst hr
  exact Ga.out X hlk (fun h => by rw [hret] at h; cases h) hc hs hq fun fs hr => retN X hx hret ht hd hr
theorem g_retR (X : Stand p l e R s m args below meth c T locs cells slots) (hx : p.tables.exec = Jvm.exec) {w : Value} {t : FieldType} (hret : meth.sig.returnType = some t) (hlk : meth.locks = false) (ht : t.isReference = true) (hn : narrow t w = w) (hw : w.isRef = true) (hd : decode c.code pc = .ok (.areturn, 1)) (hc : cells ≤ C) (hs : slots ≤ S) (hq : Q (some w) T.heap locs) : Ga p e below s Q C S T m pc Ls (w :: st) :=
  Ga.out X hlk (fun h => by rw [hret] at h; cases h) hc hs hq fun fs hr => retOut X hx hret hn (Or.inr (Or.inr (Or.inr (Or.inr ⟨rfl, ht, hw⟩)))) hd hr
theorem g_ret (X : Stand p l e R s m args below meth c T locs cells slots) (hx : p.tables.exec = Jvm.exec) (hret : meth.sig.returnType = none) (hlk : meth.locks = false) (hd : decode c.code pc = .ok (.return_, 1)) (hc : cells ≤ C) (hs : slots ≤ S) (hq : Q none T.heap locs) : Ga p e below s Q C S T m pc Ls [] :=
  Ga.out X hlk (fun _ => rfl) hc hs hq fun fs hr => X.returnOut hx hret hd hr
theorem g_new (X : Stand p l e R s m args below meth c T locs cells slots) (hx : p.tables.exec = Jvm.exec) (hZ : Z.Warmed39 s.vm) (hown : s.vm.findClass own = some m.cls) {K : String} {index n : Nat} (w : (Cond.classLink own index K).before a0 Z = true) (wi : (Cond.instantiable K n).before a0 Z = true) (wz : (Cond.initialized K).before a0 Z = true) (eT : T.heap = h)
    (hd : decode c.code pc = .ok (.new index, 3)) (hp : pc + 3 = q) (hc : cells + 1 ≤ R.cells) (hl : slots + n ≤ R.slots)
    (k : ∀ T' h' b, Stand p l e R s m args below meth c T' locs (cells + 1) (slots + n) → T'.heap = h' → b = h.size → Ext h h' → Exa Z h' b K → (∀ {O nm d : String} {ty : FieldType}, Laid Z a0 K O nm d → parseFieldDescriptor d = some ty → Fld Z h' b O nm d (defaultValue ty)) → Ga p e below s Q C S T' m q Ls (.ref b :: st)) : Ga p e below s Q C S T m pc Ls st := by
  subst hp
  obtain ⟨T', h', X', e', E', A', D', -, sx⟩ := newO X hx hZ hown w wi wz eT (g := mkF m pc Ls st) rfl hd hc hl
  exact Ga.stp sx (k T' h' _ X' e' rfl E' A' D')
theorem g_getF (X : Stand p l e R s m args below meth c T locs cells slots) (hx : p.tables.exec = Jvm.exec) (hZ : Z.Warmed39 s.vm) (hown : s.vm.findClass own = some m.cls) {R0 O n d host : String} {index : Nat} (w : (Cond.fieldLink own index R0 n d).before a0 Z = true ∨ (Cond.fieldLinkNest own index R0 n d host).before a0 Z = true) (via : Via Z R0 O n d) (eT : T.heap = h) {a : Addr} {v : Value} (F : Fld Z h a O n d v)
    (hd : decode c.code pc = .ok (.getfield index, 3)) (hp : pc + 3 = q) (k : ∀ T', Stand p l e R s m args below meth c T' locs cells slots → T'.heap = h → Ga p e below s Q C S T' m q Ls (v :: st)) : Ga p e below s Q C S T m pc Ls (.ref a :: st) := by
  subst hp
  obtain ⟨T', X', e', sx⟩ := getF X hx hZ hown w via eT F (g := mkF m pc Ls (.ref a :: st)) rfl rfl hd
  exact Ga.stp sx (k T' X' e')
theorem g_getS (X : Stand p l e R s m args below meth c T locs cells slots) (hx : p.tables.exec = Jvm.exec) (hZ : Z.Warmed39 s.vm) (hown : s.vm.findClass own = some m.cls) {R0 O n d host : String} {index : Nat} (w : (Cond.fieldLink own index R0 n d).before a0 Z = true ∨ (Cond.fieldLinkNest own index R0 n d host).before a0 Z = true) (via : Via Z R0 O n d) (eT : T.heap = h) {v : Value} (F : Sta Z h O n d v)
    (hd : decode c.code pc = .ok (.getstatic index, 3)) (hp : pc + 3 = q) (k : ∀ T', Stand p l e R s m args below meth c T' locs cells slots → T'.heap = h → Ga p e below s Q C S T' m q Ls (v :: st)) : Ga p e below s Q C S T m pc Ls st := by
  subst hp
  obtain ⟨T', X', e', sx⟩ := getS2 X hx hZ hown w via eT F (g := mkF m pc Ls st) rfl hd
  exact Ga.stp sx (k T' X' e')
theorem g_cast (X : Stand p l e R s m args below meth c T locs cells slots) (hx : p.tables.exec = Jvm.exec) (hZ : Z.Warmed39 s.vm) (hown : s.vm.findClass own = some m.cls) {K : String} {index : Nat} (w : (Cond.classLink own index K).before a0 Z = true) (eT : T.heap = h) {a : Addr} (F : Ins Z h a K true)
    (hd : decode c.code pc = .ok (.checkcast index, 3)) (hp : pc + 3 = q) (k : ∀ T', Stand p l e R s m args below meth c T' locs cells slots → T'.heap = h → Ga p e below s Q C S T' m q Ls (.ref a :: st)) : Ga p e below s Q C S T m pc Ls (.ref a :: st) := by
  subst hp
  obtain ⟨T', X', e', sx⟩ := castY X hx hZ hown w eT F (g := mkF m pc Ls (.ref a :: st)) rfl rfl hd
  exact Ga.stp sx (k T' X' e')
theorem g_putF (X : Stand p l e R s m args below meth c T locs cells slots) (hx : p.tables.exec = Jvm.exec) (hZ : Z.Warmed39 s.vm) (hown : s.vm.findClass own = some m.cls) {R0 O n d host K : String} {index kk : Nat} {ty : FieldType} (w : (Cond.fieldLink own index R0 n d).before a0 Z = true ∨ (Cond.fieldLinkNest own index R0 n d host).before a0 Z = true) (via : Via Z R0 O n d) (eT : T.heap = h) {a : Addr} {v old : Value} (F : Fld Z h a O n d old) (E : Exa Z h a K)
    (L : (Cond.lays K O n d).before a0 Z = true ∨ ((Cond.laysFinal K O n d).before a0 Z = true ∧ own = O ∧ meth.name = "<init>")) (wi : (Cond.instantiable K kk).before a0 Z = true) (hty : parseFieldDescriptor d = some ty) (hn : narrow ty v = v) (hf : fits ty v = true)
    (hd : decode c.code pc = .ok (.putfield index, 3)) (hp : pc + 3 = q) (k : ∀ T' h', Stand p l e R s m args below meth c T' (locs ++ [⟨a, Jvm.RoadKit.slotOf Z O n d⟩]) cells slots → T'.heap = h' → Wr h h' a (Jvm.RoadKit.slotOf Z O n d) v → Fld Z h' a O n d v → Ga p e below s Q C S T' m q Ls st) : Ga p e below s Q C S T m pc Ls (v :: .ref a :: st) := by
  subst hp
  obtain ⟨T', h', X', e', W', sx⟩ := putF X hx hZ hown w via eT F E L wi hty hn hf (g := mkF m pc Ls (v :: .ref a :: st)) rfl rfl hd
  exact Ga.stp sx (k T' h' X' e' W' (F.same W'))
theorem g_initO (X : Stand p l e R s m args below meth c T locs cells slots) (hx : p.tables.exec = Jvm.exec) (hZ : Z.Warmed39 s.vm) (hown : s.vm.findClass own = some m.cls) {idx : Nat} (w1 : (Cond.methodLink own idx Lib.objectInit).before a0 Z = true) (w2 : (Cond.instanceMethod Lib.objectInit).before a0 Z = true) (w3 : (Cond.code Lib.objectInit ⟨#[0xb1]⟩ 1 none).before a0 Z = true) (eT : T.heap = h) (hsz : Ls.size = c.maxLocals) {a : Addr}
    (hd : decode c.code pc = .ok (.invokespecial idx, 3)) (hp : pc + 3 = q) (hf : 1 ≤ R.frames) {W : Nat} (hW : (st.map fun v => v.category).sum ≤ W) (hl : W + 12 ≤ R.locals) (k : ∀ T', Stand p l e R s m args below meth c T' locs cells slots → T'.heap = h → Ga p e below s Q C S T' m q Ls st) : Ga p e below s Q C S T m pc Ls (.ref a :: st) := by
  subst hp
  obtain ⟨T', X', e', sx⟩ := initO X hx hZ hown w1 w2 w3 eT (g := mkF m pc Ls (.ref a :: st)) rfl hsz rfl hd hf (W := W) (by show 2 * 0 + _ ≤ _; omega) hl
  exact Ga.stp sx (k T' X' e')
theorem g_static (X : Stand p l e R s m args below meth c T locs cells slots) (hx : p.tables.exec = Jvm.exec) (hZ : Z.Warmed39 s.vm) (hown : s.vm.findClass own = some m.cls) {index : Nat} {y : MethodName} {ret : Option FieldType} {bytes : ByteArray} {maxL : Nat} {rm : Room} {as' : Array Value} {Q' : Option Value → Heap → List Loc → Prop} (w1 : (Cond.methodLink own index y).before a0 Z = true) (w2 : (Cond.static y).before a0 Z = true) (w3 : (Cond.initialized y.cls).before a0 Z = true) (w4 : (Cond.code y bytes maxL ret).before a0 Z = true) (hy : y.cls ≠ "java/lang/invoke/MethodHandle" ∧ y.cls ≠ "java/lang/invoke/VarHandle")
    (hM : Ct l Z y bytes maxL ret [] rm as' h Q') (hsz : Ls.size = c.maxLocals) (eT : T.heap = h) (argsL : List Value) {rest : List Value} (has : as' = argsL.toArray) (hst : st = argsL.reverse ++ rest) {W : Nat} (hW : (rest.map fun v => v.category).sum ≤ W) (hf : rm.frames + 1 ≤ R.frames) (hl : W + (maxL + 11) + rm.locals ≤ R.locals) (hcl : cells + rm.cells ≤ R.cells) (hsl : slots + rm.slots ≤ R.slots) (hlen : ∀ sig, parseMethodDescriptor y.desc = some sig → argsL.length = sig.parameters.length) (hd : decode c.code pc = .ok (.invokestatic index, 3)) (hp : pc + 3 = q) (k : ∀ v T' L, Stand p l e R s m args below meth c T' (locs ++ L) (cells + rm.cells) (slots + rm.slots) → Q' v T'.heap L → Ga p e below s Q C S T' m q Ls (v.toList ++ rest)) : Ga p e below s Q C S T m pc Ls st := by
  subst hp has hst
  obtain ⟨_, _, ⟨T', L', k', n'⟩, -, X', ⟨Lc, hQ', l1, y1, z1⟩, sx⟩ := Jvm.LawKit.callS X hx (y := y) hown (mvT hZ w1) (mvT hZ w2) (mvT hZ w3) (mvT hZ w4) hy (backOf (W := W) hM hZ w4 w3 hf hl) (g := mkF m pc Ls (argsL.reverse ++ rest)) rfl hsz (argsL := argsL) (rest := rest) hlen rfl (by show 2 * 0 + _ ≤ _; omega) hd (fun _ _ => ⟨rfl, eT, hcl, hsl⟩)
  dsimp only [Pt.U, Pt.locs, Pt.cells, Pt.slots] at X' l1 y1 z1 sx hQ'
  subst l1 y1 z1
  exact Ga.stp sx (k _ T' Lc X' hQ')
theorem g_special (X : Stand p l e R s m args below meth c T locs cells slots) (hx : p.tables.exec = Jvm.exec) (hZ : Z.Warmed39 s.vm) (hown : s.vm.findClass own = some m.cls) {index : Nat} {y : MethodName} {bytes : ByteArray} {maxL : Nat} {rm : Room} {as' : Array Value} {Q' : Option Value → Heap → List Loc → Prop} (hy1 : y.name = "<init>") (w1 : (Cond.methodLink own index y).before a0 Z = true) (w2 : (Cond.instanceMethod y).before a0 Z = true) (w3 : (Cond.initialized y.cls).before a0 Z = true) (w4 : (Cond.code y bytes maxL none).before a0 Z = true) (hy : y.cls ≠ "java/lang/invoke/MethodHandle" ∧ y.cls ≠ "java/lang/invoke/VarHandle") {a : Addr}
    (hM : Ct l Z y bytes maxL none [] rm as' h Q') (hsz : Ls.size = c.maxLocals) (eT : T.heap = h) (argsL : List Value) {rest : List Value} (has : as' = (.ref a :: argsL).toArray) (hst : st = argsL.reverse ++ .ref a :: rest) {W : Nat} (hW : (rest.map fun v => v.category).sum ≤ W) (hf : rm.frames + 1 ≤ R.frames) (hl : W + (maxL + 11) + rm.locals ≤ R.locals) (hcl : cells + rm.cells ≤ R.cells) (hsl : slots + rm.slots ≤ R.slots) (hlen : ∀ sig, parseMethodDescriptor y.desc = some sig → argsL.length = sig.parameters.length) (hd : decode c.code pc = .ok (.invokespecial index, 3)) (hp : pc + 3 = q) (k : ∀ v T' L, Stand p l e R s m args below meth c T' (locs ++ L) (cells + rm.cells) (slots + rm.slots) → Q' v T'.heap L → Ga p e below s Q C S T' m q Ls (v.toList ++ rest)) : Ga p e below s Q C S T m pc Ls st := by
  subst hp has hst
  obtain ⟨_, _, ⟨T', L', k', n'⟩, -, X', ⟨Lc, hQ', l1, y1, z1⟩, sx⟩ := X.specialBack hx (y := y) hy1 hown (mvT hZ w1) (mvT hZ w2) (mvT hZ w4) hy (backOf (W := W) hM hZ w4 w3 hf hl) (g := mkF m pc Ls (argsL.reverse ++ .ref a :: rest)) rfl hsz (Steps.refl _) (a := a) (argsL := argsL) (rest := rest) hlen rfl (by show 2 * 0 + _ ≤ _; omega) hd (fun _ _ => ⟨rfl, eT, hcl, hsl⟩)
  dsimp only [Pt.U, Pt.locs, Pt.cells, Pt.slots] at X' l1 y1 z1 sx hQ'
  subst l1 y1 z1
  exact Ga.stp (fun _ kk => sx.trans kk) (k _ T' Lc X' hQ')
theorem g_virtual (X : Stand p l e R s m args below meth c T locs cells slots) (hx : p.tables.exec = Jvm.exec) (hZ : Z.Warmed39 s.vm) (hown : s.vm.findClass own = some m.cls) {index : Nat} {y z : MethodName} {K : String} {ret : Option FieldType} {bytes : ByteArray} {maxL : Nat} {rm : Room} {as' : Array Value} {Q' : Option Value → Heap → List Loc → Prop} (w1 : (Cond.methodLink own index y).before a0 Z = true) (w2 : (Cond.declares y).before a0 Z = true) (nf : NotFace s y) (w3 : (Cond.selects K y z).before a0 Z = true) (w4 : (Cond.instanceMethod z).before a0 Z = true) (w5 : (Cond.initialized z.cls).before a0 Z = true) (w6 : (Cond.code z bytes maxL ret).before a0 Z = true) (hy : y.cls ≠ "java/lang/invoke/MethodHandle" ∧ y.cls ≠ "java/lang/invoke/VarHandle") {a : Addr} (E : Exa Z h a K)
    (hM : Ct l Z z bytes maxL ret [] rm as' h Q') (hsz : Ls.size = c.maxLocals) (eT : T.heap = h) (argsL : List Value) {rest : List Value} (has : as' = (.ref a :: argsL).toArray) (hst : st = argsL.reverse ++ .ref a :: rest) {W : Nat} (hW : (rest.map fun v => v.category).sum ≤ W) (hf : rm.frames + 1 ≤ R.frames) (hl : W + (maxL + 11) + rm.locals ≤ R.locals) (hcl : cells + rm.cells ≤ R.cells) (hsl : slots + rm.slots ≤ R.slots) (hlen : ∀ sig, parseMethodDescriptor y.desc = some sig → argsL.length = sig.parameters.length) (hd : decode c.code pc = .ok (.invokevirtual index, 3)) (hp : pc + 3 = q) (k : ∀ v T' L, Stand p l e R s m args below meth c T' (locs ++ L) (cells + rm.cells) (slots + rm.slots) → Q' v T'.heap L → Ga p e below s Q C S T' m q Ls (v.toList ++ rest)) : Ga p e below s Q C S T m pc Ls st := by
  subst hp has hst
  obtain ⟨cq, kq, qa, qb, qc⟩ := isOf hZ eT E
  obtain ⟨_, _, ⟨T', L', k', n'⟩, -, X', ⟨Lc, hQ', l1, y1, z1⟩, sx⟩ := X.virtualBack hx (y := y) (z := z) hown (mvT hZ w1) (mvT hZ w2) nf (mvT hZ w3) (mvT hZ w4) hy (backOf (W := W) hM hZ w6 w5 hf hl) qa qc (g := mkF m pc Ls (argsL.reverse ++ .ref a :: rest)) rfl hsz (Steps.refl _) (argsL := argsL) (rest := rest) hlen rfl (by show 2 * 0 + _ ≤ _; omega) hd (fun _ _ => ⟨rfl, eT, hcl, hsl⟩)
  dsimp only [Pt.U, Pt.locs, Pt.cells, Pt.slots] at X' l1 y1 z1 sx hQ'
  subst l1 y1 z1
  exact Ga.stp (fun _ kk => sx.trans kk) (k _ T' Lc X' hQ')
theorem g_interface (X : Stand p l e R s m args below meth c T locs cells slots) (hx : p.tables.exec = Jvm.exec) (hZ : Z.Warmed39 s.vm) (hown : s.vm.findClass own = some m.cls) {index count : Nat} {y z : MethodName} {K : String} {ret : Option FieldType} {bytes : ByteArray} {maxL : Nat} {rm : Room} {as' : Array Value} {Q' : Option Value → Heap → List Loc → Prop} (w1 : (Cond.methodLink own index y).before a0 Z = true) (w2 : (Cond.declares y).before a0 Z = true) (w2' : (Cond.interfaceMethod y.cls y.cls y.name y.desc).before a0 Z = true) (w3 : (Cond.selects K y z).before a0 Z = true) (w4 : (Cond.instanceMethod z).before a0 Z = true) (w7 : (Cond.publicMethod z).before a0 Z = true) (w8 : (Cond.unhidden K y.name y.desc).before a0 Z = true) (w9 : (Cond.castable K y.cls).before a0 Z = true) (w5 : (Cond.initialized z.cls).before a0 Z = true) (w6 : (Cond.code z bytes maxL ret).before a0 Z = true) (hy : y.cls ≠ "java/lang/invoke/MethodHandle" ∧ y.cls ≠ "java/lang/invoke/VarHandle") {a : Addr} (E : Exa Z h a K)
    (hM : Ct l Z z bytes maxL ret [] rm as' h Q') (hsz : Ls.size = c.maxLocals) (eT : T.heap = h) (argsL : List Value) {rest : List Value} (has : as' = (.ref a :: argsL).toArray) (hst : st = argsL.reverse ++ .ref a :: rest) {W : Nat} (hW : (rest.map fun v => v.category).sum ≤ W) (hf : rm.frames + 1 ≤ R.frames) (hl : W + (maxL + 11) + rm.locals ≤ R.locals) (hcl : cells + rm.cells ≤ R.cells) (hsl : slots + rm.slots ≤ R.slots) (hlen : ∀ sig, parseMethodDescriptor y.desc = some sig → argsL.length = sig.parameters.length) (hd : decode c.code pc = .ok (.invokeinterface index count, 5)) (hp : pc + 5 = q) (k : ∀ v T' L, Stand p l e R s m args below meth c T' (locs ++ L) (cells + rm.cells) (slots + rm.slots) → Q' v T'.heap L → Ga p e below s Q C S T' m q Ls (v.toList ++ rest)) : Ga p e below s Q C S T m pc Ls st := by
  subst hp has hst
  obtain ⟨cq, kq, qa, qb, qc⟩ := isOf hZ eT E
  obtain ⟨_, _, ⟨T', L', k', n'⟩, -, X', ⟨Lc, hQ', l1, y1, z1⟩, sx⟩ := X.interfaceBack hx (xi := y) (y := z) hown (mvT hZ w1) (mvT hZ w2) (Jvm.Free.ULB.iface_rides hZ.alike w2') (mvT hZ w3) (mvT hZ w4) (mvT hZ w7) (mvT hZ w8) (mvT hZ w9) hy (backOf (W := W) hM hZ w6 w5 hf hl) qa qb qc (g := mkF m pc Ls (argsL.reverse ++ .ref a :: rest)) rfl hsz (Steps.refl _) (argsL := argsL) (rest := rest) hlen rfl (by show 2 * 0 + _ ≤ _; omega) hd (fun _ _ => ⟨rfl, eT, hcl, hsl⟩)
  dsimp only [Pt.U, Pt.locs, Pt.cells, Pt.slots] at X' l1 y1 z1 sx hQ'
  subst l1 y1 z1
  exact Ga.stp (fun _ kk => sx.trans kk) (k _ T' Lc X' hQ')
theorem g_private (X : Stand p l e R s m args below meth c T locs cells slots) (hx : p.tables.exec = Jvm.exec) (hZ : Z.Warmed39 s.vm) (hown : s.vm.findClass own = some m.cls) {index : Nat} {y : MethodName} {ret : Option FieldType} {bytes : ByteArray} {maxL : Nat} {rm : Room} {as' : Array Value} {Q' : Option Value → Heap → List Loc → Prop} (w1 : (Cond.methodLink own index y).before a0 Z = true) (w2 : (Cond.instanceMethod y).before a0 Z = true) {ki : Nat} (w3 : (Cond.instantiable y.cls ki).before a0 Z = true) (w4 : (Cond.privateMethod y).before a0 Z = true) (w5 : (Cond.initialized y.cls).before a0 Z = true) (w6 : (Cond.code y bytes maxL ret).before a0 Z = true) (hy : y.cls ≠ "java/lang/invoke/MethodHandle" ∧ y.cls ≠ "java/lang/invoke/VarHandle") {a : Addr} {K : String} (E : Exa Z h a K)
    (hM : Ct l Z y bytes maxL ret [] rm as' h Q') (hsz : Ls.size = c.maxLocals) (eT : T.heap = h) (argsL : List Value) {rest : List Value} (has : as' = (.ref a :: argsL).toArray) (hst : st = argsL.reverse ++ .ref a :: rest) {W : Nat} (hW : (rest.map fun v => v.category).sum ≤ W) (hf : rm.frames + 1 ≤ R.frames) (hl : W + (maxL + 11) + rm.locals ≤ R.locals) (hcl : cells + rm.cells ≤ R.cells) (hsl : slots + rm.slots ≤ R.slots) (hlen : ∀ sig, parseMethodDescriptor y.desc = some sig → argsL.length = sig.parameters.length) (hd : decode c.code pc = .ok (.invokevirtual index, 3)) (hp : pc + 3 = q) (k : ∀ v T' L, Stand p l e R s m args below meth c T' (locs ++ L) (cells + rm.cells) (slots + rm.slots) → Q' v T'.heap L → Ga p e below s Q C S T' m q Ls (v.toList ++ rest)) : Ga p e below s Q C S T m pc Ls st := by
  subst hp has hst
  obtain ⟨cq, qa, qb⟩ := E.cell
  have hpr : s.PrivateAt y := Cond.privateMethod_at (mvP hZ w4 (args := #[]))
  obtain ⟨ci, kc, i1, i2, -, i4, -⟩ := Cond.instantiable_spec (mvT (args := args) hZ w3)
  have hni : kc.isInterface = false := by rcases Bool.eq_false_or_eq_true kc.isInterface with q | q <;> simp [q] at i4 ⊢
  have hsel := selects_self_of_private (args := args) i1 i2 hni hpr (mvT hZ w2) hy
  obtain ⟨_, _, ⟨T', L', k', n'⟩, -, X', ⟨Lc, hQ', l1, y1, z1⟩, sx⟩ := X.privateBack hx (y := y) hown (mvT hZ w1) (mvT hZ w2) hsel hpr (mvT hZ w6) hy (backOf (W := W) hM hZ w6 w5 hf hl) (g := mkF m pc Ls (argsL.reverse ++ .ref a :: rest)) rfl hsz (Steps.refl _) (a := a) (by rw [eT]; exact qa) qb (argsL := argsL) (rest := rest) hlen rfl (by show 2 * 0 + _ ≤ _; omega) hd (fun _ _ => ⟨rfl, eT, hcl, hsl⟩)
  dsimp only [Pt.U, Pt.locs, Pt.cells, Pt.slots] at X' l1 y1 z1 sx hQ'
  subst l1 y1 z1
  exact Ga.stp (fun _ kk => sx.trans kk) (k _ T' Lc X' hQ')
variable {ka : ClassId} {ty : FieldType} {z j : Int32} {vs : List Value} {dv : Value} {a : Addr}
theorem g_len (X : Stand p l e R s m args below meth c T locs cells slots) (hx : p.tables.exec = Jvm.exec) (hZ : Z.Warmed39 s.vm) (eT : T.heap = h) (A : Arv Z h a ka ty z vs dv) (hd : decode c.code pc = .ok (.arraylength, 1)) (hp : pc + 1 = q) (g : Ga p e below s Q C S T m q Ls (.int z :: st)) : Ga p e below s Q C S T m pc Ls (.ref a :: st) := by
  subst hp
  obtain ⟨cl, Ar, -, Sz, N, -, -⟩ := A
  refine Ga.stp (fun t k => X.arraylength hx (by rw [eT]; exact Ar.1) (State.isArrayOf_alike hZ.alike Ar.2.1) (g := mkF m pc Ls (.ref a :: st)) rfl rfl hd t ?_) g
  rw [len_of Sz N]; exact k
theorem g_baload (X : Stand p l e R s m args below meth c T locs cells slots) (hx : p.tables.exec = Jvm.exec) (hZ : Z.Warmed39 s.vm) (eT : T.heap = h) (A : Arv Z h a ka .byte z vs dv) {v : Value} (hin : ¬ j < 0 ∧ j < z) (hv : vs.getD j.toNatClampNeg dv = v) (hd : decode c.code pc = .ok (.baload, 1)) (hp : pc + 1 = q) (g : Ga p e below s Q C S T m q Ls (v :: st)) : Ga p e below s Q C S T m pc Ls (.int j :: .ref a :: st) := by
  subst hp
  obtain ⟨cl, Ar, -, Sz, N, Hs, -⟩ := A
  exact Ga.stp (fun t k => X.baloadBytes hx (j := j) (v := v) (by rw [eT]; exact Ar.1) (State.isArrayOf_alike hZ.alike Ar.2.1) Ar.2.2 (inb_of Sz hin) (Hs.at (inb_of Sz hin) hv) (g := mkF m pc Ls (.int j :: .ref a :: st)) rfl rfl hd t k) g
theorem g_aaload (X : Stand p l e R s m args below meth c T locs cells slots) (hx : p.tables.exec = Jvm.exec) (hZ : Z.Warmed39 s.vm) (eT : T.heap = h) (A : Arv Z h a ka ty z vs dv) (hr : ty.isReference = true) {v : Value} (hin : ¬ j < 0 ∧ j < z) (hv : vs.getD j.toNatClampNeg dv = v) (hd : decode c.code pc = .ok (.aaload, 1)) (hp : pc + 1 = q) (g : Ga p e below s Q C S T m q Ls (v :: st)) : Ga p e below s Q C S T m pc Ls (.int j :: .ref a :: st) := by
  subst hp
  obtain ⟨cl, Ar, -, Sz, N, Hs, -⟩ := A
  exact Ga.stp (fun t k => X.aaload hx (j := j) (v := v) (by rw [eT]; exact Ar.1) (State.isArrayOf_alike hZ.alike Ar.2.1) hr Ar.2.2 (inb_of Sz hin) (Hs.at (inb_of Sz hin) hv) (g := mkF m pc Ls (.int j :: .ref a :: st)) rfl rfl hd t k) g
theorem g_bastore (X : Stand p l e R s m args below meth c T locs cells slots) (hx : p.tables.exec = Jvm.exec) (hZ : Z.Warmed39 s.vm) (eT : T.heap = h) (A : Arv Z h a ka .byte z vs dv) {x : Int32} (hin : ¬ j < 0 ∧ j < z) (hlen : j.toNatClampNeg < vs.length) (hd : decode c.code pc = .ok (.bastore, 1)) (hp : pc + 1 = q)
    (k : ∀ T' h', Stand p l e R s m args below meth c T' (locs ++ [⟨a, j.toNatClampNeg⟩]) cells slots → T'.heap = h' → Wr h h' a j.toNatClampNeg (.int (nar .byte x)) → Arv Z h' a ka .byte z (vs.set j.toNatClampNeg (.int (nar .byte x))) dv → Ga p e below s Q C S T' m q Ls st) : Ga p e below s Q C S T m pc Ls (.int x :: .int j :: .ref a :: st) := by
  subst hp
  obtain ⟨cl, Ar, q1, Sz, N, Hs, Gs⟩ := A
  obtain ⟨T', h', X', e', W', sx⟩ := stB X hx hZ eT Ar (j := j) (inb_of Sz hin) (g := mkF m pc Ls (.int x :: .int j :: .ref a :: st)) rfl rfl hd
  exact Ga.stp sx (k T' h' X' e' W' (Arv.set Ar q1 Sz N Hs Gs (fits_nar_byte x) W' _ rfl hlen))
theorem g_aastore (X : Stand p l e R s m args below meth c T locs cells slots) (hx : p.tables.exec = Jvm.exec) (hZ : Z.Warmed39 s.vm) (eT : T.heap = h) (A : Arv Z h a ka ty z vs dv) (hr : ty.isReference = true) {x : Value} (hfi : fits ty x = true) (F : Sto Z h a x) (hin : ¬ j < 0 ∧ j < z) (hlen : j.toNatClampNeg < vs.length) (hd : decode c.code pc = .ok (.aastore, 1)) (hp : pc + 1 = q)
    (k : ∀ T' h', Stand p l e R s m args below meth c T' (locs ++ [⟨a, j.toNatClampNeg⟩]) cells slots → T'.heap = h' → Wr h h' a j.toNatClampNeg x → Arv Z h' a ka ty z (vs.set j.toNatClampNeg x) dv → Ga p e below s Q C S T' m q Ls st) : Ga p e below s Q C S T m pc Ls (x :: .int j :: .ref a :: st) := by
  subst hp
  obtain ⟨cl, Ar, q1, Sz, N, Hs, Gs⟩ := A
  obtain ⟨T', h', X', e', W', sx⟩ := stR X hx hZ eT Ar (j := j) (inb_of Sz hin) hr F (g := mkF m pc Ls (x :: .int j :: .ref a :: st)) rfl rfl hd
  exact Ga.stp sx (k T' h' X' e' W' (Arv.set Ar q1 Sz N Hs Gs hfi W' _ rfl hlen))
theorem own_sto {y : Addr} {K : String} (A : Arv Z h a ka ty z vs dv) (O : Ovr Z ka K) (I : Ins Z h y K true) : Sto Z h a (.ref y) := by
  obtain ⟨cl, Ar, q1, -⟩ := A
  exact Sto.ofV Ar q1 O I
theorem g_newarray (X : Stand p l e R s m args below meth c T locs cells slots) (hx : p.tables.exec = Jvm.exec) (hZ : Z.Warmed39 s.vm) {aty : ArrayType} (w : (Cond.arrayClass (newarray.typeOf aty)).before a0 Z = true) (eT : T.heap = h) {n : Int32} (hn : ¬ n < 0) (cap : Nat) (hcap : n.toNatClampNeg ≤ cap) (hb : cap * 8 ≤ 536870912) (hc : cells + 1 ≤ R.cells) (hl : slots + cap ≤ R.slots) {ad : String} (had : "[" ++ (newarray.typeOf aty).toString = ad) (hd : decode c.code pc = .ok (.newarray aty, 2)) (hp : pc + 2 = q)
    (k : ∀ T' h' b kA, Stand p l e R s m args below meth c T' locs (cells + 1) (slots + cap) → T'.heap = h' → b = h.size → Ext h h' → Exa Z h' b ad → Arv Z h' b kA (newarray.typeOf aty) n (List.replicate cap (defaultValue (newarray.typeOf aty))) (defaultValue (newarray.typeOf aty)) → Ga p e below s Q C S T' m q Ls (.ref b :: st)) : Ga p e below s Q C S T m pc Ls (.int n :: st) := by
  subst hp
  obtain ⟨T', h', cA, X', e', E', A', Ea, sx⟩ := newPE X hx hZ w eT (g := mkF m pc Ls (.int n :: st)) rfl hd rfl hn hcap hb hc hl had
  exact Ga.stp sx (k T' h' _ cA X' e' rfl E' Ea ((Arv.new A' hn).pad (by simpa using pad_rep [] (defaultValue (newarray.typeOf aty)) cap)))
theorem g_anewarray (X : Stand p l e R s m args below meth c T locs cells slots) (hx : p.tables.exec = Jvm.exec) (hZ : Z.Warmed39 s.vm) (hown : s.vm.findClass own = some m.cls) {K : String} {index : Nat} (w1 : (Cond.classLink own index K).before a0 Z = true) (w2 : (Cond.arrayOver (.object K)).before a0 Z = true) (eT : T.heap = h) {n : Int32} (hn : ¬ n < 0) (cap : Nat) (hcap : n.toNatClampNeg ≤ cap) (hb : cap * 8 ≤ 536870912) (hc : cells + 1 ≤ R.cells) (hl : slots + cap ≤ R.slots) {ad : String} (had : "[" ++ (FieldType.object K).toString = ad) (hd : decode c.code pc = .ok (.anewarray index, 3)) (hp : pc + 3 = q)
    (k : ∀ T' h' b kA, Stand p l e R s m args below meth c T' locs (cells + 1) (slots + cap) → T'.heap = h' → b = h.size → Ext h h' → Exa Z h' b ad → Ovr Z kA K → Arv Z h' b kA (.object K) n (List.replicate cap .null) .null → Ga p e below s Q C S T' m q Ls (.ref b :: st)) : Ga p e below s Q C S T m pc Ls (.int n :: st) := by
  subst hp
  obtain ⟨T', h', cA, X', e', E', A', Ea, O', sx⟩ := newRE X hx hZ hown w1 w2 eT (g := mkF m pc Ls (.int n :: st)) rfl hd rfl hn hcap hb hc hl had
  exact Ga.stp sx (k T' h' _ cA X' e' rfl E' Ea O' ((Arv.new A' hn).pad (by show ∀ i, (List.replicate cap (defaultValue (FieldType.object K))).getD i (defaultValue (FieldType.object K)) = [].getD i (defaultValue (FieldType.object K)); simpa using pad_rep [] (defaultValue (FieldType.object K)) cap)))
theorem g_clone (X : Stand p l e R s m args below meth c T locs cells slots) (hx : p.tables.exec = Jvm.exec) (hZ : Z.Warmed39 s.vm) (hown : s.vm.findClass own = some m.cls) {ad : String} {index : Nat} (w1 : (Cond.methodLink own index ⟨ad, "clone", "()Ljava/lang/Object;"⟩).before a0 Z = true) (w2 : (Cond.sameMethod ad "java/lang/Object" "clone" "()Ljava/lang/Object;").before a0 Z = true) (w3 : (Cond.native ⟨"java/lang/Object", "clone", "()Ljava/lang/Object;"⟩).before a0 Z = true)
    (w4 : (Cond.instanceMethod ⟨"java/lang/Object", "clone", "()Ljava/lang/Object;"⟩).before a0 Z = true) (w5 : (Cond.selects ad ⟨ad, "clone", "()Ljava/lang/Object;"⟩ ⟨"java/lang/Object", "clone", "()Ljava/lang/Object;"⟩).before a0 Z = true) (w6 : (Cond.castable ad "java/lang/Cloneable").before a0 Z = true)
    (eT : T.heap = h) (A : Arv Z h a ka ty z vs dv) (E : Exa Z h a ad) (hsz : Ls.size = c.maxLocals) (hd : decode c.code pc = .ok (.invokevirtual index, 3)) (hp : pc + 3 = q) (hf : 1 ≤ R.frames) {W : Nat} (hW : (st.map fun v => v.category).sum ≤ W) (hl : W + 14 ≤ R.locals) (cap : Nat) (hcap : z.toNatClampNeg ≤ cap) (hc : cells + 1 ≤ R.cells) (hsl : slots + cap ≤ R.slots)
    (k : ∀ T' h' b, Stand p l e R s m args below meth c T' locs (cells + 1) (slots + cap) → T'.heap = h' → b = h.size → Ext h h' → Exa Z h' b ad → Arv Z h' b ka ty z vs dv → Ga p e below s Q C S T' m q Ls (.ref b :: st)) : Ga p e below s Q C S T m pc Ls (.ref a :: st) := by
  subst hp
  obtain ⟨T', h', X', e', E', A', Ea, sx⟩ := cloneH X hx hZ hown w1 w2 w3 w4 w5 w6 eT A.arh E (g := mkF m pc Ls (.ref a :: st)) rfl hsz rfl hd hf (W := W) (by show 2 * 0 + _ ≤ _; omega) hl hcap hc hsl
  exact Ga.stp sx (k T' h' _ X' e' rfl E' Ea A')
theorem own_ne {b : Addr} (h1 : a < h.size) (h2 : b = h.size) : a ≠ b := Nat.ne_of_lt (h2 ▸ h1)
theorem own_neK {b : Addr} (h1 : a < h.size) (h2 : h.size ≤ b) : a ≠ b := Nat.ne_of_lt (Nat.lt_of_lt_of_le h1 h2)
end GoKit

theorem own_irrI (x : Int32) : ¬ x < x := Int32.lt_irrefl
theorem own_irrJ (x : Int64) : ¬ x < x := Int64.lt_irrefl
theorem own_narc (x : Int32) : nar .char (x &&& (255 : Int32)) = (x &&& (255 : Int32)) := i2c_mask x
theorem own_nar (x : Int32) : nar .byte x = x.toInt8.toInt32 := rfl
theorem own_bb (x : Int32) : x.toInt8.toInt32.toInt8.toInt32 = x.toInt8.toInt32 := by simp
theorem own_nb {h : Heap} {b b' y : Addr} (hb : b' = b ∨ h.size ≤ b') (lt : y < h.size) (ne : y ≠ b) : y ≠ b' := hb.elim (fun q => q ▸ ne) (fun q => Nat.ne_of_lt (Nat.lt_of_lt_of_le lt q))
theorem own_ng {h : Heap} {b b' : Addr} {n0 : Nat} (hb : b' = b ∨ h.size ≤ b') (g : n0 ≤ b) (Z : n0 ≤ h.size) : n0 ≤ b' := hb.elim (fun q => q ▸ g) (fun q => Nat.le_trans Z q)
theorem own_insK {Z : State} {h h' : Heap} {a : Addr} {C : String} {ws : List Addr} (F : Ins Z h a C true) (K : Keep h h' ws) : Ins Z h' a C true := by
  obtain ⟨cell, cT, h1, h2, h3⟩ := F
  obtain ⟨c', q1, q2, q3, -⟩ := K.2.2 _ _ h1
  exact ⟨c', cT, q1, h2, by rw [q2, q3]; exact h3⟩
theorem d_jdk_22_m_1_0 : decode jdk_22_method_1_code 0 = .ok (.aload_n 0, 1) := by decide +kernel
theorem d_jdk_22_m_1_1 : decode jdk_22_method_1_code 1 = .ok (.invokespecial 1, 3) := by decide +kernel
theorem d_jdk_22_m_1_4 : decode jdk_22_method_1_code 4 = .ok (.return_, 1) := by decide +kernel
theorem d_jdk_39_m_1_0 : decode jdk_39_method_1_code 0 = .ok (.aload_n 0, 1) := by decide +kernel
theorem d_jdk_39_m_1_1 : decode jdk_39_method_1_code 1 = .ok (.invokespecial 1, 3) := by decide +kernel
theorem d_jdk_39_m_1_4 : decode jdk_39_method_1_code 4 = .ok (.aload_n 0, 1) := by decide +kernel
theorem d_jdk_39_m_1_5 : decode jdk_39_method_1_code 5 = .ok (.iconst 0, 1) := by decide +kernel
theorem d_jdk_39_m_1_6 : decode jdk_39_method_1_code 6 = .ok (.putfield 7, 3) := by decide +kernel
theorem d_jdk_39_m_1_9 : decode jdk_39_method_1_code 9 = .ok (.return_, 1) := by decide +kernel
theorem d_jdk_38_m_2_0 : decode jdk_38_method_2_code 0 = .ok (.aload_n 0, 1) := by decide +kernel
theorem d_jdk_38_m_2_1 : decode jdk_38_method_2_code 1 = .ok (.invokespecial 1, 3) := by decide +kernel
theorem d_jdk_38_m_2_4 : decode jdk_38_method_2_code 4 = .ok (.aload_n 0, 1) := by decide +kernel
theorem d_jdk_38_m_2_5 : decode jdk_38_method_2_code 5 = .ok (.getstatic 39, 3) := by decide +kernel
theorem d_jdk_38_m_2_8 : decode jdk_38_method_2_code 8 = .ok (.putfield 9, 3) := by decide +kernel
theorem d_jdk_38_m_2_11 : decode jdk_38_method_2_code 11 = .ok (.return_, 1) := by decide +kernel
theorem d_jdk_29_m_65_0 : decode jdk_29_method_65_code 0 = .ok (.iload_n 0, 1) := by decide +kernel
theorem d_jdk_29_m_65_1 : decode jdk_29_method_65_code 1 = .ok (.iload_n 1, 1) := by decide +kernel
theorem d_jdk_29_m_65_2 : decode jdk_29_method_65_code 2 = .ok (.if_icmp .lt 7, 3) := by decide +kernel
theorem d_jdk_29_m_65_5 : decode jdk_29_method_65_code 5 = .ok (.iload_n 0, 1) := by decide +kernel
theorem d_jdk_29_m_65_6 : decode jdk_29_method_65_code 6 = .ok (.goto 4, 3) := by decide +kernel
theorem d_jdk_29_m_65_10 : decode jdk_29_method_65_code 10 = .ok (.ireturn, 1) := by decide +kernel
theorem d_jdk_38_m_6_0 : decode jdk_38_method_6_code 0 = .ok (.aload_n 0, 1) := by decide +kernel
theorem d_jdk_38_m_6_1 : decode jdk_38_method_6_code 1 = .ok (.getfield 9, 3) := by decide +kernel
theorem d_jdk_38_m_6_4 : decode jdk_38_method_6_code 4 = .ok (.arraylength, 1) := by decide +kernel
theorem d_jdk_38_m_6_5 : decode jdk_38_method_6_code 5 = .ok (.istore_n 2, 1) := by decide +kernel
theorem d_jdk_38_m_6_6 : decode jdk_38_method_6_code 6 = .ok (.iload_n 2, 1) := by decide +kernel
theorem d_jdk_38_m_6_7 : decode jdk_38_method_6_code 7 = .ok (.ifCond .gt 13, 3) := by decide +kernel
theorem d_jdk_38_m_6_10 : decode jdk_38_method_6_code 10 = .ok (.aload_n 0, 1) := by decide +kernel
theorem d_jdk_38_m_6_11 : decode jdk_38_method_6_code 11 = .ok (.getfield 9, 3) := by decide +kernel
theorem d_jdk_38_m_6_14 : decode jdk_38_method_6_code 14 = .ok (.getstatic 39, 3) := by decide +kernel
theorem d_jdk_38_m_6_17 : decode jdk_38_method_6_code 17 = .ok (.if_acmp .eq 28, 3) := by decide +kernel
theorem d_jdk_38_m_6_45 : decode jdk_38_method_6_code 45 = .ok (.aload_n 0, 1) := by decide +kernel
theorem d_jdk_38_m_6_46 : decode jdk_38_method_6_code 46 = .ok (.bipush 10, 2) := by decide +kernel
theorem d_jdk_38_m_6_48 : decode jdk_38_method_6_code 48 = .ok (.iload_n 1, 1) := by decide +kernel
theorem d_jdk_38_m_6_49 : decode jdk_38_method_6_code 49 = .ok (.invokestatic 79, 3) := by decide +kernel
theorem d_jdk_38_m_6_52 : decode jdk_38_method_6_code 52 = .ok (.anewarray 7, 3) := by decide +kernel
theorem d_jdk_38_m_6_55 : decode jdk_38_method_6_code 55 = .ok (.dup_x1, 1) := by decide +kernel
theorem d_jdk_38_m_6_56 : decode jdk_38_method_6_code 56 = .ok (.putfield 9, 3) := by decide +kernel
theorem d_jdk_38_m_6_59 : decode jdk_38_method_6_code 59 = .ok (.areturn, 1) := by decide +kernel
theorem d_jdk_38_m_7_0 : decode jdk_38_method_7_code 0 = .ok (.aload_n 0, 1) := by decide +kernel
theorem d_jdk_38_m_7_1 : decode jdk_38_method_7_code 1 = .ok (.aload_n 0, 1) := by decide +kernel
theorem d_jdk_38_m_7_2 : decode jdk_38_method_7_code 2 = .ok (.getfield 48, 3) := by decide +kernel
theorem d_jdk_38_m_7_5 : decode jdk_38_method_7_code 5 = .ok (.iconst 1, 1) := by decide +kernel
theorem d_jdk_38_m_7_6 : decode jdk_38_method_7_code 6 = .ok (.iadd, 1) := by decide +kernel
theorem d_jdk_38_m_7_7 : decode jdk_38_method_7_code 7 = .ok (.invokevirtual 69, 3) := by decide +kernel
theorem d_jdk_38_m_7_10 : decode jdk_38_method_7_code 10 = .ok (.areturn, 1) := by decide +kernel
theorem d_jdk_38_m_24_0 : decode jdk_38_method_24_code 0 = .ok (.iload_n 3, 1) := by decide +kernel
theorem d_jdk_38_m_24_1 : decode jdk_38_method_24_code 1 = .ok (.aload_n 2, 1) := by decide +kernel
theorem d_jdk_38_m_24_2 : decode jdk_38_method_24_code 2 = .ok (.arraylength, 1) := by decide +kernel
theorem d_jdk_38_m_24_3 : decode jdk_38_method_24_code 3 = .ok (.if_icmp .ne 8, 3) := by decide +kernel
theorem d_jdk_38_m_24_6 : decode jdk_38_method_24_code 6 = .ok (.aload_n 0, 1) := by decide +kernel
theorem d_jdk_38_m_24_7 : decode jdk_38_method_24_code 7 = .ok (.invokevirtual 129, 3) := by decide +kernel
theorem d_jdk_38_m_24_10 : decode jdk_38_method_24_code 10 = .ok (.astore_n 2, 1) := by decide +kernel
theorem d_jdk_38_m_24_11 : decode jdk_38_method_24_code 11 = .ok (.aload_n 2, 1) := by decide +kernel
theorem d_jdk_38_m_24_12 : decode jdk_38_method_24_code 12 = .ok (.iload_n 3, 1) := by decide +kernel
theorem d_jdk_38_m_24_13 : decode jdk_38_method_24_code 13 = .ok (.aload_n 1, 1) := by decide +kernel
theorem d_jdk_38_m_24_14 : decode jdk_38_method_24_code 14 = .ok (.aastore, 1) := by decide +kernel
theorem d_jdk_38_m_24_15 : decode jdk_38_method_24_code 15 = .ok (.aload_n 0, 1) := by decide +kernel
theorem d_jdk_38_m_24_16 : decode jdk_38_method_24_code 16 = .ok (.iload_n 3, 1) := by decide +kernel
theorem d_jdk_38_m_24_17 : decode jdk_38_method_24_code 17 = .ok (.iconst 1, 1) := by decide +kernel
theorem d_jdk_38_m_24_18 : decode jdk_38_method_24_code 18 = .ok (.iadd, 1) := by decide +kernel
theorem d_jdk_38_m_24_19 : decode jdk_38_method_24_code 19 = .ok (.putfield 48, 3) := by decide +kernel
theorem d_jdk_38_m_24_22 : decode jdk_38_method_24_code 22 = .ok (.return_, 1) := by decide +kernel
theorem d_jdk_38_m_25_0 : decode jdk_38_method_25_code 0 = .ok (.aload_n 0, 1) := by decide +kernel
theorem d_jdk_38_m_25_1 : decode jdk_38_method_25_code 1 = .ok (.dup, 1) := by decide +kernel
theorem d_jdk_38_m_25_2 : decode jdk_38_method_25_code 2 = .ok (.getfield 63, 3) := by decide +kernel
theorem d_jdk_38_m_25_5 : decode jdk_38_method_25_code 5 = .ok (.iconst 1, 1) := by decide +kernel
theorem d_jdk_38_m_25_6 : decode jdk_38_method_25_code 6 = .ok (.iadd, 1) := by decide +kernel
theorem d_jdk_38_m_25_7 : decode jdk_38_method_25_code 7 = .ok (.putfield 63, 3) := by decide +kernel
theorem d_jdk_38_m_25_10 : decode jdk_38_method_25_code 10 = .ok (.aload_n 0, 1) := by decide +kernel
theorem d_jdk_38_m_25_11 : decode jdk_38_method_25_code 11 = .ok (.aload_n 1, 1) := by decide +kernel
theorem d_jdk_38_m_25_12 : decode jdk_38_method_25_code 12 = .ok (.aload_n 0, 1) := by decide +kernel
theorem d_jdk_38_m_25_13 : decode jdk_38_method_25_code 13 = .ok (.getfield 9, 3) := by decide +kernel
theorem d_jdk_38_m_25_16 : decode jdk_38_method_25_code 16 = .ok (.aload_n 0, 1) := by decide +kernel
theorem d_jdk_38_m_25_17 : decode jdk_38_method_25_code 17 = .ok (.getfield 48, 3) := by decide +kernel
theorem d_jdk_38_m_25_20 : decode jdk_38_method_25_code 20 = .ok (.invokevirtual 131, 3) := by decide +kernel
theorem d_jdk_38_m_25_23 : decode jdk_38_method_25_code 23 = .ok (.iconst 1, 1) := by decide +kernel
theorem d_jdk_38_m_25_24 : decode jdk_38_method_25_code 24 = .ok (.ireturn, 1) := by decide +kernel
theorem d_jdk_41_m_11_0 : decode jdk_41_method_11_code 0 = .ok (.iload_n 0, 1) := by decide +kernel
theorem d_jdk_41_m_11_1 : decode jdk_41_method_11_code 1 = .ok (.ifCond .lt 8, 3) := by decide +kernel
theorem d_jdk_41_m_11_4 : decode jdk_41_method_11_code 4 = .ok (.iload_n 0, 1) := by decide +kernel
theorem d_jdk_41_m_11_5 : decode jdk_41_method_11_code 5 = .ok (.iload_n 1, 1) := by decide +kernel
theorem d_jdk_41_m_11_6 : decode jdk_41_method_11_code 6 = .ok (.if_icmp .lt 10, 3) := by decide +kernel
theorem d_jdk_41_m_11_16 : decode jdk_41_method_11_code 16 = .ok (.iload_n 0, 1) := by decide +kernel
theorem d_jdk_41_m_11_17 : decode jdk_41_method_11_code 17 = .ok (.ireturn, 1) := by decide +kernel
theorem d_jdk_31_m_17_0 : decode jdk_31_method_17_code 0 = .ok (.iload_n 0, 1) := by decide +kernel
theorem d_jdk_31_m_17_1 : decode jdk_31_method_17_code 1 = .ok (.iload_n 1, 1) := by decide +kernel
theorem d_jdk_31_m_17_2 : decode jdk_31_method_17_code 2 = .ok (.aconst_null, 1) := by decide +kernel
theorem d_jdk_31_m_17_3 : decode jdk_31_method_17_code 3 = .ok (.invokestatic 105, 3) := by decide +kernel
theorem d_jdk_31_m_17_6 : decode jdk_31_method_17_code 6 = .ok (.ireturn, 1) := by decide +kernel
theorem d_jdk_38_m_18_0 : decode jdk_38_method_18_code 0 = .ok (.aload_n 0, 1) := by decide +kernel
theorem d_jdk_38_m_18_1 : decode jdk_38_method_18_code 1 = .ok (.getfield 9, 3) := by decide +kernel
theorem d_jdk_38_m_18_4 : decode jdk_38_method_18_code 4 = .ok (.iload_n 1, 1) := by decide +kernel
theorem d_jdk_38_m_18_5 : decode jdk_38_method_18_code 5 = .ok (.aaload, 1) := by decide +kernel
theorem d_jdk_38_m_18_6 : decode jdk_38_method_18_code 6 = .ok (.areturn, 1) := by decide +kernel
theorem d_jdk_38_m_20_0 : decode jdk_38_method_20_code 0 = .ok (.iload_n 1, 1) := by decide +kernel
theorem d_jdk_38_m_20_1 : decode jdk_38_method_20_code 1 = .ok (.aload_n 0, 1) := by decide +kernel
theorem d_jdk_38_m_20_2 : decode jdk_38_method_20_code 2 = .ok (.getfield 48, 3) := by decide +kernel
theorem d_jdk_38_m_20_5 : decode jdk_38_method_20_code 5 = .ok (.invokestatic 118, 3) := by decide +kernel
theorem d_jdk_38_m_20_8 : decode jdk_38_method_20_code 8 = .ok (.pop, 1) := by decide +kernel
theorem d_jdk_38_m_20_9 : decode jdk_38_method_20_code 9 = .ok (.aload_n 0, 1) := by decide +kernel
theorem d_jdk_38_m_20_10 : decode jdk_38_method_20_code 10 = .ok (.iload_n 1, 1) := by decide +kernel
theorem d_jdk_38_m_20_11 : decode jdk_38_method_20_code 11 = .ok (.invokevirtual 123, 3) := by decide +kernel
theorem d_jdk_38_m_20_14 : decode jdk_38_method_20_code 14 = .ok (.areturn, 1) := by decide +kernel
theorem d_prog_17_m_1_0 : decode prog_17_method_1_code 0 = .ok (.aload_n 0, 1) := by decide +kernel
theorem d_prog_17_m_1_1 : decode prog_17_method_1_code 1 = .ok (.invokespecial 1, 3) := by decide +kernel
theorem d_prog_17_m_1_4 : decode prog_17_method_1_code 4 = .ok (.aload_n 0, 1) := by decide +kernel
theorem d_prog_17_m_1_5 : decode prog_17_method_1_code 5 = .ok (.new 7, 3) := by decide +kernel
theorem d_prog_17_m_1_8 : decode prog_17_method_1_code 8 = .ok (.dup, 1) := by decide +kernel
theorem d_prog_17_m_1_9 : decode prog_17_method_1_code 9 = .ok (.invokespecial 9, 3) := by decide +kernel
theorem d_prog_17_m_1_12 : decode prog_17_method_1_code 12 = .ok (.putfield 10, 3) := by decide +kernel
theorem d_prog_17_m_1_15 : decode prog_17_method_1_code 15 = .ok (.aload_n 0, 1) := by decide +kernel
theorem d_prog_17_m_1_16 : decode prog_17_method_1_code 16 = .ok (.new 7, 3) := by decide +kernel
theorem d_prog_17_m_1_19 : decode prog_17_method_1_code 19 = .ok (.dup, 1) := by decide +kernel
theorem d_prog_17_m_1_20 : decode prog_17_method_1_code 20 = .ok (.invokespecial 9, 3) := by decide +kernel
theorem d_prog_17_m_1_23 : decode prog_17_method_1_code 23 = .ok (.putfield 16, 3) := by decide +kernel
theorem d_prog_17_m_1_26 : decode prog_17_method_1_code 26 = .ok (.return_, 1) := by decide +kernel
theorem d_prog_17_m_3_0 : decode prog_17_method_3_code 0 = .ok (.aload_n 0, 1) := by decide +kernel
theorem d_prog_17_m_3_1 : decode prog_17_method_3_code 1 = .ok (.getfield 10, 3) := by decide +kernel
theorem d_prog_17_m_3_4 : decode prog_17_method_3_code 4 = .ok (.aload_n 1, 1) := by decide +kernel
theorem d_prog_17_m_3_5 : decode prog_17_method_3_code 5 = .ok (.invokevirtual 19, 3) := by decide +kernel
theorem d_prog_17_m_3_8 : decode prog_17_method_3_code 8 = .ok (.checkcast 20, 3) := by decide +kernel
theorem d_prog_17_m_3_11 : decode prog_17_method_3_code 11 = .ok (.invokeinterface 25 2, 5) := by decide +kernel
theorem d_prog_17_m_3_16 : decode prog_17_method_3_code 16 = .ok (.pop, 1) := by decide +kernel
theorem d_prog_17_m_3_17 : decode prog_17_method_3_code 17 = .ok (.aload_n 0, 1) := by decide +kernel
theorem d_prog_17_m_3_18 : decode prog_17_method_3_code 18 = .ok (.getfield 16, 3) := by decide +kernel
theorem d_prog_17_m_3_21 : decode prog_17_method_3_code 21 = .ok (.aconst_null, 1) := by decide +kernel
theorem d_prog_17_m_3_22 : decode prog_17_method_3_code 22 = .ok (.invokeinterface 25 2, 5) := by decide +kernel
theorem d_prog_17_m_3_27 : decode prog_17_method_3_code 27 = .ok (.pop, 1) := by decide +kernel
theorem d_prog_17_m_3_28 : decode prog_17_method_3_code 28 = .ok (.aload_n 0, 1) := by decide +kernel
theorem d_prog_17_m_3_29 : decode prog_17_method_3_code 29 = .ok (.areturn, 1) := by decide +kernel
theorem d_prog_17_m_2_0 : decode prog_17_method_2_code 0 = .ok (.aload_n 0, 1) := by decide +kernel
theorem d_prog_17_m_2_1 : decode prog_17_method_2_code 1 = .ok (.getfield 10, 3) := by decide +kernel
theorem d_prog_17_m_2_4 : decode prog_17_method_2_code 4 = .ok (.aload_n 1, 1) := by decide +kernel
theorem d_prog_17_m_2_5 : decode prog_17_method_2_code 5 = .ok (.invokevirtual 19, 3) := by decide +kernel
theorem d_prog_17_m_2_8 : decode prog_17_method_2_code 8 = .ok (.checkcast 20, 3) := by decide +kernel
theorem d_prog_17_m_2_11 : decode prog_17_method_2_code 11 = .ok (.invokeinterface 25 2, 5) := by decide +kernel
theorem d_prog_17_m_2_16 : decode prog_17_method_2_code 16 = .ok (.pop, 1) := by decide +kernel
theorem d_prog_17_m_2_17 : decode prog_17_method_2_code 17 = .ok (.aload_n 0, 1) := by decide +kernel
theorem d_prog_17_m_2_18 : decode prog_17_method_2_code 18 = .ok (.getfield 16, 3) := by decide +kernel
theorem d_prog_17_m_2_21 : decode prog_17_method_2_code 21 = .ok (.aload_n 2, 1) := by decide +kernel
theorem d_prog_17_m_2_22 : decode prog_17_method_2_code 22 = .ok (.invokevirtual 19, 3) := by decide +kernel
theorem d_prog_17_m_2_25 : decode prog_17_method_2_code 25 = .ok (.checkcast 20, 3) := by decide +kernel
theorem d_prog_17_m_2_28 : decode prog_17_method_2_code 28 = .ok (.invokeinterface 25 2, 5) := by decide +kernel
theorem d_prog_17_m_2_33 : decode prog_17_method_2_code 33 = .ok (.pop, 1) := by decide +kernel
theorem d_prog_17_m_2_34 : decode prog_17_method_2_code 34 = .ok (.aload_n 0, 1) := by decide +kernel
theorem d_prog_17_m_2_35 : decode prog_17_method_2_code 35 = .ok (.areturn, 1) := by decide +kernel
theorem d_m_2_0 : decode method_2_code 0 = .ok (.iload_n 3, 1) := by decide +kernel
theorem d_m_2_1 : decode method_2_code 1 = .ok (.ifCond .eq 12, 3) := by decide +kernel
theorem d_m_2_4 : decode method_2_code 4 = .ok (.aload_n 0, 1) := by decide +kernel
theorem d_m_2_5 : decode method_2_code 5 = .ok (.aload_n 1, 1) := by decide +kernel
theorem d_m_2_6 : decode method_2_code 6 = .ok (.invokevirtual 7, 3) := by decide +kernel
theorem d_m_2_9 : decode method_2_code 9 = .ok (.pop, 1) := by decide +kernel
theorem d_m_2_10 : decode method_2_code 10 = .ok (.goto 10, 3) := by decide +kernel
theorem d_m_2_20 : decode method_2_code 20 = .ok (.return_, 1) := by decide +kernel
theorem d_m_2_13 : decode method_2_code 13 = .ok (.aload_n 0, 1) := by decide +kernel
theorem d_m_2_14 : decode method_2_code 14 = .ok (.aload_n 1, 1) := by decide +kernel
theorem d_m_2_15 : decode method_2_code 15 = .ok (.aload_n 2, 1) := by decide +kernel
theorem d_m_2_16 : decode method_2_code 16 = .ok (.invokevirtual 13, 3) := by decide +kernel
theorem d_m_2_19 : decode method_2_code 19 = .ok (.pop, 1) := by decide +kernel
theorem d_prog_17_m_5_0 : decode prog_17_method_5_code 0 = .ok (.aload_n 0, 1) := by decide +kernel
theorem d_prog_17_m_5_1 : decode prog_17_method_5_code 1 = .ok (.getfield 10, 3) := by decide +kernel
theorem d_prog_17_m_5_4 : decode prog_17_method_5_code 4 = .ok (.iload_n 1, 1) := by decide +kernel
theorem d_prog_17_m_5_5 : decode prog_17_method_5_code 5 = .ok (.invokeinterface 35 2, 5) := by decide +kernel
theorem d_prog_17_m_5_10 : decode prog_17_method_5_code 10 = .ok (.checkcast 20, 3) := by decide +kernel
theorem d_prog_17_m_5_13 : decode prog_17_method_5_code 13 = .ok (.areturn, 1) := by decide +kernel
theorem pd_0 : parseMethodDescriptor "()V" = some ⟨[], none⟩ := by decide +kernel
theorem pd_1 : parseMethodDescriptor "(II)I" = some ⟨[.int, .int], some .int⟩ := by decide +kernel
theorem pd_2 : parseMethodDescriptor "(I)[Ljava/lang/Object;" = some ⟨[.int], some (.array (.object "java/lang/Object"))⟩ := by decide +kernel
theorem pd_3 : parseMethodDescriptor "()[Ljava/lang/Object;" = some ⟨[], some (.array (.object "java/lang/Object"))⟩ := by decide +kernel
theorem pd_4 : parseMethodDescriptor "(Ljava/lang/Object;[Ljava/lang/Object;I)V" = some ⟨[(.object "java/lang/Object"), (.array (.object "java/lang/Object")), .int], none⟩ := by decide +kernel
theorem pd_5 : parseMethodDescriptor "(IILjava/util/function/BiFunction;)I" = some ⟨[.int, .int, (.object "java/util/function/BiFunction")], some .int⟩ := by decide +kernel
theorem pd_6 : parseMethodDescriptor "(I)Ljava/lang/Object;" = some ⟨[.int], some (.object "java/lang/Object")⟩ := by decide +kernel
theorem pd_7 : parseMethodDescriptor "(Ljava/lang/Object;)Z" = some ⟨[(.object "java/lang/Object")], some .boolean⟩ := by decide +kernel
theorem pd_8 : parseMethodDescriptor "([B)Lcom/example/covering/covering/store/Batch;" = some ⟨[(.array .byte)], some (.object "com/example/covering/covering/store/Batch")⟩ := by decide +kernel
theorem pd_9 : parseMethodDescriptor "([B[B)Lcom/example/covering/covering/store/Batch;" = some ⟨[(.array .byte), (.array .byte)], some (.object "com/example/covering/covering/store/Batch")⟩ := by decide +kernel
theorem pd_10 : parseMethodDescriptor "(Lcom/example/covering/covering/store/Batch;[B[BZ)V" = some ⟨[(.object "com/example/covering/covering/store/Batch"), (.array .byte), (.array .byte), .boolean], none⟩ := by decide +kernel
theorem pd_11 : parseMethodDescriptor "(I)[B" = some ⟨[.int], some (.array .byte)⟩ := by decide +kernel
theorem pn_0 : plainName "java/util/AbstractCollection" = true := by first | (simp [plainName, overriddenIn]; done) | decide +kernel
theorem pn_1 : plainName "java/util/AbstractList" = true := by first | (simp [plainName, overriddenIn]; done) | decide +kernel
theorem pn_2 : plainName "java/util/ArrayList" = true := by first | (simp [plainName, overriddenIn]; done) | decide +kernel
theorem pn_3 : plainName "jdk/internal/util/Preconditions" = true := by first | (simp [plainName, overriddenIn]; done) | decide +kernel
theorem pn_4 : plainName "java/util/Objects" = true := by first | (simp [plainName, overriddenIn]; done) | decide +kernel
theorem pn_5 : plainName "com/example/covering/covering/store/Batch" = true := by first | (simp [plainName, overriddenIn]; done) | decide +kernel
theorem pn_6 : plainName "com/example/covering/covering/store/BatchKeyPinLaw" = true := by first | (simp [plainName, overriddenIn]; done) | decide +kernel
theorem own_lt32 {x y : Int32} : x < y ↔ x.toInt < y.toInt := Int32.lt_iff_toInt_lt
theorem own_eq32 {x y : Int32} : x = y ↔ x.toInt = y.toInt := Int32.toInt_inj.symm
theorem own_i0 : (0 : Int32).toInt = 0 := rfl
theorem own_i1 : (1 : Int32).toInt = 1 := rfl
theorem own_nat {j z : Int32} (h0 : ¬ j < 0) (h : j < z) : j.toNatClampNeg < z.toNatClampNeg := by
  have a := nat_of h0
  have hz : ¬ z < 0 := by rw [own_lt32] at *; rw [own_i0] at *; omega
  have b := nat_of hz
  rw [own_lt32] at h; omega
theorem own_mx {x v : Int32} (h : (x &&& (2147483647 : Int32)) = v) : ¬ v < (0 : Int32) := by
  have e := c_mask x 2147483647 31 (by decide) (by decide)
  rw [h] at e; rw [own_lt32, own_i0]; omega
theorem own_mx1 {x v : Int32} (h : (x &&& (2147483647 : Int32)) = v) (h0 : ¬ v = 0) : ¬ v < (1 : Int32) := by
  have e := c_mask x 2147483647 31 (by decide) (by decide)
  rw [h] at e; rw [own_eq32, own_i0] at h0; rw [own_lt32, own_i1]; omega
theorem own_rem3 {x v : Int32} (h0 : ¬ x < (0 : Int32)) (h : (x % (3 : Int32)) = v) : v = (0 : Int32) ∨ v = (1 : Int32) ∨ v = (2 : Int32) := by
  have e := (c_irem x 3 3 rfl).1 (by rw [own_lt32, own_i0] at h0; omega)
  rw [h] at e
  have : v.toInt = 0 ∨ v.toInt = 1 ∨ v.toInt = 2 := by omega
  rcases this with q | q | q
  · left; exact Int32.toInt_inj.mp q
  · right; left; exact Int32.toInt_inj.mp q
  · right; right; exact Int32.toInt_inj.mp q
theorem own_ushr0 (x q : Int32) (k : Nat) (hk : q.toBitVec.toNat % 32 = k) (hk0 : 0 < k) : ¬ ((x.toUInt32 >>> (q &&& 31).toUInt32).toInt32) < (0 : Int32) := by
  have e := c_iushr x q k hk hk0
  rw [own_lt32, e, own_i0]
  have : 0 ≤ (x.toInt % 4294967296) / ((2 ^ k : Nat) : Int) := Int.ediv_nonneg (Int.emod_nonneg _ (by decide)) (Int.natCast_nonneg _)
  omega
theorem own_eqi {args : Array Value} {s : State} {idx : List Nat} {t : Term} {n : Int32} (h : (Jvm.Cond.eq t (.int n)).value args s none s idx = some true) : t.eval args s none idx s = some (.int n) := by
  obtain ⟨x, y, h1, h2, h3, h4⟩ := cmp_v (Or.inl h)
  cases (Term.int_eval n).symm.trans h2
  obtain ⟨z, rfl⟩ := h4
  have e := gotT (Cond.eq_ints h1 h2) h
  subst e; exact h1
theorem own_len0 {args : Array Value} {s : State} {t : Term} {a : Addr} {cl : Cell} {ty : FieldType} {n : Int32} (A : Arr s s.heap a cl ty) (ev : t.eval args s none [] s = some (.ref a)) (hl : (Term.length t).eval args s none [] s = some (.int n)) : cl.slots.size < 2 ^ 31 ∧ cl.slots.size.toInt32 = n := by
  have h2 : s.arrayAt? a = some cl := A.fin (Vm.Alike.refl _)
  simp only [Term.eval, ev, h2, Option.bind_eq_bind, Option.bind_some] at hl
  split at hl
  · rename_i q; exact ⟨q, by simpa using hl⟩
  · cases hl
theorem own_empty {args : Array Value} {s : State} {t : Term} {a : Addr} {cl : Cell} {ty : FieldType} (hf : Fit s) (A : Arr s s.heap a cl ty) (ev : t.eval args s none [] s = some (.ref a)) (hl : (Term.length t).eval args s none [] s = some (.int 0)) : Arv s s.heap a cl.cls ty (0 : Int32) [] .null :=
  Arv.start hf A (own_len0 A ev hl).1 (own_len0 A ev hl).2 (by decide) rfl trivial

def Q_acini (Z : State) (a : Addr) (h0 : Heap) (n0 : Nat) (v : Option Value) (h : Heap) (L : List Loc) : Prop := v = none ∧ Fr n0 L ∧ h = h0
theorem ef_acini (m : MethodId) (x0 : Addr) : entryFrame m #[(.ref x0)] 1 = mkF m 0 #[.val (.ref x0)] [] := by first | (simp [entryFrame, mkF, argsToLocals, Value.category]; done) | rfl
set_option maxRecDepth 65536 in
set_option maxHeartbeats 40000000 in
theorem rm_acini (l : Launch) (Z : State) (a0 : Array Value) (hw : ∀ d ∈ tables_1, d.before a0 Z = true) (a : Addr) (h0 : Heap) (n0 : Nat) (Z0 : n0 ≤ h0.size) :
    Ct l Z (⟨"java/util/AbstractCollection", "<init>", "()V"⟩ : MethodName) jdk_22_method_1_code 1 none [] ({ frames := 1, cells := 0, slots := 0, locals := 12 } : Room) #[(.ref a)] h0 (Q_acini Z a h0 n0) := by
  refine own_body (plainFor_of_name pn_0) (fun m => ef_acini m a) ?_
  intro p e s m below meth c T0 hx hby hml hZ hown hnm hret hlk X0 e0
  have N0 := Fr.nil n0
  refine g_aloadN X0 hx (hb hby d_jdk_22_m_1_0) rfl rfl rfl ?_
  refine g_initO X0 hx hZ hown (hw _ (List.mem_of_getElem? (i := 28) rfl)) (hw _ (List.mem_of_getElem? (i := 8) rfl)) (hw _ (List.mem_of_getElem? (i := 9) rfl)) e0 (by rw [hml]; rfl) (hb hby d_jdk_22_m_1_1) rfl (by decide) (W := 0) (Nat.le_of_eq rfl) (by decide) fun T1 X1 e1 => ?_
  exact g_ret X1 hx hret hlk (hb hby d_jdk_22_m_1_4) (by decide) (by decide) (by rw [e1]; exact ⟨rfl, N0, rfl⟩)
def Q_abini (Z : State) (a : Addr) (h0 : Heap) (n0 : Nat) (v : Option Value) (h : Heap) (L : List Loc) : Prop := v = none ∧ Fr n0 L ∧ Keep h0 h [a] ∧ Exa Z h a "java/util/ArrayList" ∧ Fld Z h a "java/util/ArrayList" "elementData" "[Ljava/lang/Object;" .null ∧ Fld Z h a "java/util/ArrayList" "size" "I" (.int (0 : Int32)) ∧ Fld Z h a "java/util/AbstractList" "modCount" "I" (.int (0 : Int32))
theorem ef_abini (m : MethodId) (x0 : Addr) : entryFrame m #[(.ref x0)] 1 = mkF m 0 #[.val (.ref x0)] [] := by first | (simp [entryFrame, mkF, argsToLocals, Value.category]; done) | rfl
set_option maxRecDepth 65536 in
set_option maxHeartbeats 40000000 in
theorem rm_abini (l : Launch) (Z : State) (a0 : Array Value) (hw : ∀ d ∈ tables_1, d.before a0 Z = true) (a : Addr) (h0 : Heap) (n0 : Nat) (Z0 : n0 ≤ h0.size) (F_elementData_a : Fld Z h0 a "java/util/ArrayList" "elementData" "[Ljava/lang/Object;" .null) (F_size_a : Fld Z h0 a "java/util/ArrayList" "size" "I" (.int (0 : Int32))) (F_modCount_a : Fld Z h0 a "java/util/AbstractList" "modCount" "I" (.int (0 : Int32))) (E_a : Exa Z h0 a "java/util/ArrayList") (g_a : n0 ≤ a) :
    Ct l Z (⟨"java/util/AbstractList", "<init>", "()V"⟩ : MethodName) jdk_39_method_1_code 1 none [] ({ frames := 2, cells := 0, slots := 0, locals := 24 } : Room) #[(.ref a)] h0 (Q_abini Z a h0 n0) := by
  refine own_body (plainFor_of_name pn_1) (fun m => ef_abini m a) ?_
  intro p e s m below meth c T0 hx hby hml hZ hown hnm hret hlk X0 e0
  have N0 := Fr.nil n0
  refine g_aloadN X0 hx (hb hby d_jdk_39_m_1_0) rfl rfl rfl ?_
  refine g_special X0 hx hZ hown rfl (hw _ (List.mem_of_getElem? (i := 22) rfl)) (hw _ (List.mem_of_getElem? (i := 23) rfl)) (hw _ (List.mem_of_getElem? (i := 26) rfl)) (hw _ (List.mem_of_getElem? (i := 27) rfl)) (by decide) (a := a) (rm_acini l Z a0 hw a h0 n0 Z0) (by rw [hml]; rfl) e0 [] rfl rfl (W := 0) (Nat.le_of_eq rfl) (by decide) (by decide) (by decide) (by decide) (lenOf pd_0 rfl) (hb hby d_jdk_39_m_1_1) rfl fun v1 T1 L1 X1 hQ1 => ?_
  obtain ⟨rfl, Nq1, eh1⟩ := hQ1
  have N1 := Fr.app N0 Nq1
  show Ga _ _ _ _ _ _ _ _ _ _ _ []
  refine g_aloadN X1 hx (hb hby d_jdk_39_m_1_4) rfl rfl rfl ?_
  refine g_iconst X1 hx (r := (0 : Int32)) (hb hby d_jdk_39_m_1_5) rfl rfl ?_
  refine g_putF X1 hx hZ hown (host := "") (Or.inl (hw _ (List.mem_of_getElem? (i := 29) rfl))) Via.refl eh1 F_modCount_a E_a (Or.inl (hw _ (List.mem_of_getElem? (i := 30) rfl))) (hw _ (List.mem_of_getElem? (i := 11) rfl)) (ty := .int) (by decide) rfl rfl (hb hby d_jdk_39_m_1_6) rfl fun T2 h2 X2 e2 W2 F2 => ?_
  have kk2 : Keep h0 h2 [a] := (Keep.refl h0 [a]).wr W2 (Or.inl (by simp))
  have N2 := Fr.snoc X2 N1 g_a
  have Z2 : n0 ≤ h2.size := by rw [W2.size]; exact Z0
  have f3 : Exa Z h2 a "java/util/ArrayList" := (E_a.wr W2)
  have f4 : Fld Z h2 a "java/util/ArrayList" "elementData" "[Ljava/lang/Object;" .null := (F_elementData_a.other W2 (Or.inr (slot_ne (Or.inl (hw _ (List.mem_of_getElem? (i := 33) rfl))) (Or.inl (hw _ (List.mem_of_getElem? (i := 30) rfl))) (by decide) (t := (.array (.object "java/lang/Object"))) (t' := .int) (by decide) (by decide))))
  have f5 : Fld Z h2 a "java/util/ArrayList" "size" "I" (.int (0 : Int32)) := (F_size_a.other W2 (Or.inr (slot_ne (Or.inl (hw _ (List.mem_of_getElem? (i := 68) rfl))) (Or.inl (hw _ (List.mem_of_getElem? (i := 30) rfl))) (by decide) (t := .int) (t' := .int) (by decide) (by decide))))
  exact g_ret X2 hx hret hlk (hb hby d_jdk_39_m_1_9) (by decide) (by decide) (by rw [e2]; exact ⟨rfl, N2, kk2, f3, f4, f5, F2⟩)
def Q_alini (Z : State) (a : Addr) (d0 : Addr) (h0 : Heap) (n0 : Nat) (v : Option Value) (h : Heap) (L : List Loc) : Prop := v = none ∧ Fr n0 L ∧ Keep h0 h [a] ∧ Exa Z h a "java/util/ArrayList" ∧ Fld Z h a "java/util/ArrayList" "elementData" "[Ljava/lang/Object;" (.ref d0) ∧ Fld Z h a "java/util/ArrayList" "size" "I" (.int (0 : Int32)) ∧ Fld Z h a "java/util/AbstractList" "modCount" "I" (.int (0 : Int32))
theorem ef_alini (m : MethodId) (x0 : Addr) : entryFrame m #[(.ref x0)] 1 = mkF m 0 #[.val (.ref x0)] [] := by first | (simp [entryFrame, mkF, argsToLocals, Value.category]; done) | rfl
set_option maxRecDepth 65536 in
set_option maxHeartbeats 40000000 in
theorem rm_alini (l : Launch) (Z : State) (a0 : Array Value) (hw : ∀ d ∈ tables_1, d.before a0 Z = true) (a : Addr) (d0 : Addr) (h0 : Heap) (n0 : Nat) (Z0 : n0 ≤ h0.size) (F_elementData_a : Fld Z h0 a "java/util/ArrayList" "elementData" "[Ljava/lang/Object;" .null) (F_size_a : Fld Z h0 a "java/util/ArrayList" "size" "I" (.int (0 : Int32))) (F_modCount_a : Fld Z h0 a "java/util/AbstractList" "modCount" "I" (.int (0 : Int32))) (E_a : Exa Z h0 a "java/util/ArrayList") (g_a : n0 ≤ a) (old0 : Old Z n0 h0) (S0_DEFAULTCAPACITY_EMPTY_ELEMENTDATA : Sta Z Z.heap "java/util/ArrayList" "DEFAULTCAPACITY_EMPTY_ELEMENTDATA" "[Ljava/lang/Object;" (.ref d0)) :
    Ct l Z (⟨"java/util/ArrayList", "<init>", "()V"⟩ : MethodName) jdk_38_method_2_code 1 none [] ({ frames := 3, cells := 0, slots := 0, locals := 36 } : Room) #[(.ref a)] h0 (Q_alini Z a d0 h0 n0) := by
  refine own_body (plainFor_of_name pn_2) (fun m => ef_alini m a) ?_
  intro p e s m below meth c T0 hx hby hml hZ hown hnm hret hlk X0 e0
  have N0 := Fr.nil n0
  refine g_aloadN X0 hx (hb hby d_jdk_38_m_2_0) rfl rfl rfl ?_
  refine g_special X0 hx hZ hown rfl (hw _ (List.mem_of_getElem? (i := 16) rfl)) (hw _ (List.mem_of_getElem? (i := 17) rfl)) (hw _ (List.mem_of_getElem? (i := 20) rfl)) (hw _ (List.mem_of_getElem? (i := 21) rfl)) (by decide) (a := a) (rm_abini l Z a0 hw a h0 n0 Z0 F_elementData_a F_size_a F_modCount_a E_a g_a) (by rw [hml]; rfl) e0 [] rfl rfl (W := 0) (Nat.le_of_eq rfl) (by decide) (by decide) (by decide) (by decide) (lenOf pd_0 rfl) (hb hby d_jdk_38_m_2_1) rfl fun v1 T1 L1 X1 hQ1 => ?_
  obtain ⟨rfl, Nq1, kc1, p1_0, p1_1, p1_2, p1_3⟩ := hQ1
  have N1 := Fr.app N0 Nq1
  have kk1 : Keep h0 T1.heap [a] := (Keep.refl h0 [a]).trans kc1 (allS (Or.inl (by simp)) all0)
  have Z1 : n0 ≤ T1.heap.size := Nat.le_trans Z0 kc1.1
  show Ga _ _ _ _ _ _ _ _ _ _ _ []
  refine g_aloadN X1 hx (hb hby d_jdk_38_m_2_4) rfl rfl rfl ?_
  have f3 : Old Z n0 T1.heap := (old0.keep kc1 (allS g_a all0))
  refine g_getS X1 hx hZ hown (host := "") (Or.inl (hw _ (List.mem_of_getElem? (i := 31) rfl))) Via.refl rfl (Sta.ext f3.2 S0_DEFAULTCAPACITY_EMPTY_ELEMENTDATA) (hb hby d_jdk_38_m_2_5) rfl fun T2 X2 e2 => ?_
  refine g_putF X2 hx hZ hown (host := "") (Or.inl (hw _ (List.mem_of_getElem? (i := 32) rfl))) Via.refl e2 p1_1 p1_0 (Or.inl (hw _ (List.mem_of_getElem? (i := 33) rfl))) (hw _ (List.mem_of_getElem? (i := 11) rfl)) (ty := (.array (.object "java/lang/Object"))) (by decide) rfl rfl (hb hby d_jdk_38_m_2_8) rfl fun T4 h4 X4 e4 W4 F4 => ?_
  have kk4 : Keep h0 h4 [a] := kk1.wr W4 (Or.inl (by simp))
  have N4 := Fr.snoc X4 N1 g_a
  have Z4 : n0 ≤ h4.size := by rw [W4.size]; exact Z1
  have f5 : Exa Z h4 a "java/util/ArrayList" := (p1_0.wr W4)
  have f6 : Fld Z h4 a "java/util/ArrayList" "size" "I" (.int (0 : Int32)) := (p1_2.other W4 (Or.inr (slot_ne (Or.inl (hw _ (List.mem_of_getElem? (i := 68) rfl))) (Or.inl (hw _ (List.mem_of_getElem? (i := 33) rfl))) (by decide) (t := .int) (t' := (.array (.object "java/lang/Object"))) (by decide) (by decide))))
  have f7 : Fld Z h4 a "java/util/AbstractList" "modCount" "I" (.int (0 : Int32)) := (p1_3.other W4 (Or.inr (slot_ne (Or.inl (hw _ (List.mem_of_getElem? (i := 30) rfl))) (Or.inl (hw _ (List.mem_of_getElem? (i := 33) rfl))) (by decide) (t := .int) (t' := (.array (.object "java/lang/Object"))) (by decide) (by decide))))
  exact g_ret X4 hx hret hlk (hb hby d_jdk_38_m_2_11) (by decide) (by decide) (by rw [e4]; exact ⟨rfl, N4, kk4, f5, F4, f6, f7⟩)
def Q_maxX (Z : State) (x : Int32) (y : Int32) (h0 : Heap) (n0 : Nat) (v : Option Value) (h : Heap) (L : List Loc) : Prop := v = some (.int x) ∧ Fr n0 L ∧ h = h0
theorem ef_maxX (m : MethodId) (x0 : Int32) (x1 : Int32) : entryFrame m #[(.int x0), (.int x1)] 2 = mkF m 0 #[.val (.int x0), .val (.int x1)] [] := by first | (simp [entryFrame, mkF, argsToLocals, Value.category]; done) | rfl
set_option maxRecDepth 65536 in
set_option maxHeartbeats 40000000 in
theorem rm_maxX (l : Launch) (Z : State) (a0 : Array Value) (hw : ∀ d ∈ tables_1, d.before a0 Z = true) (x : Int32) (y : Int32) (h0 : Heap) (n0 : Nat) (Z0 : n0 ≤ h0.size) (hxy : ¬ x < y) :
    Ct l Z (⟨"java/lang/Math", "max", "(II)I"⟩ : MethodName) jdk_29_method_65_code 2 (some .int) [] ({ frames := 0, cells := 0, slots := 0, locals := 0 } : Room) #[(.int x), (.int y)] h0 (Q_maxX Z x y h0 n0) := by
  refine own_body (Jvm.Free.JP.mathPlain rfl (by decide +kernel)) (fun m => ef_maxX m x y) ?_
  intro p e s m below meth c T0 hx hby hml hZ hown hnm hret hlk X0 e0
  have N0 := Fr.nil n0
  refine g_iloadN X0 hx (hb hby d_jdk_29_m_65_0) rfl rfl ?_
  refine g_iloadN X0 hx (hb hby d_jdk_29_m_65_1) rfl rfl ?_
  have hc2 : ¬ x < y := hxy
  refine g_icmpN X0 hx (hb hby d_jdk_29_m_65_2) rfl (XT.ii_lt_f hc2) ?_
  refine g_iloadN X0 hx (hb hby d_jdk_29_m_65_5) rfl rfl ?_
  refine g_goto X0 hx (q := 10) (hb hby d_jdk_29_m_65_6) (by decide) (by decide) ?_
  exact g_retI X0 hx hret hlk (hb hby d_jdk_29_m_65_10) (by decide) (by decide) (by rw [e0]; exact ⟨rfl, N0, rfl⟩)
def Q_grow1 (Z : State) (a : Addr) (mc : Int32) (d0 : Addr) (kd : ClassId) (h0 : Heap) (n0 : Nat) (v : Option Value) (h : Heap) (L : List Loc) : Prop := ∃ (b : Addr) (kb : ClassId), v = some (.ref b) ∧ Fr n0 L ∧ Keep h0 h [a] ∧ h0.size ≤ b ∧ Exa Z h a "java/util/ArrayList" ∧ Fld Z h a "java/util/ArrayList" "elementData" "[Ljava/lang/Object;" (.ref b) ∧ Fld Z h a "java/util/ArrayList" "size" "I" (.int (0 : Int32)) ∧ Fld Z h a "java/util/AbstractList" "modCount" "I" (.int mc) ∧ Ovr Z kb "java/lang/Object" ∧ Arv Z h b kb (.object "java/lang/Object") (10 : Int32) [.null, .null, .null, .null, .null, .null, .null, .null, .null, .null] .null
theorem ef_grow1 (m : MethodId) (x0 : Addr) (x1 : Int32) : entryFrame m #[(.ref x0), (.int x1)] 4 = mkF m 0 #[.val (.ref x0), .val (.int x1), .unset, .unset] [] := by first | (simp [entryFrame, mkF, argsToLocals, Value.category]; done) | rfl
set_option maxRecDepth 65536 in
set_option maxHeartbeats 40000000 in
theorem rm_grow1 (l : Launch) (Z : State) (a0 : Array Value) (hw : ∀ d ∈ tables_1, d.before a0 Z = true) (a : Addr) (mc : Int32) (d0 : Addr) (kd : ClassId) (h0 : Heap) (n0 : Nat) (Z0 : n0 ≤ h0.size) (F_elementData_a : Fld Z h0 a "java/util/ArrayList" "elementData" "[Ljava/lang/Object;" (.ref d0)) (F_size_a : Fld Z h0 a "java/util/ArrayList" "size" "I" (.int (0 : Int32))) (F_modCount_a : Fld Z h0 a "java/util/AbstractList" "modCount" "I" (.int mc)) (E_a : Exa Z h0 a "java/util/ArrayList") (g_a : n0 ≤ a) (old0 : Old Z n0 h0) (S0_DEFAULTCAPACITY_EMPTY_ELEMENTDATA : Sta Z Z.heap "java/util/ArrayList" "DEFAULTCAPACITY_EMPTY_ELEMENTDATA" "[Ljava/lang/Object;" (.ref d0)) (V0_d0 : Arv Z Z.heap d0 kd (.object "java/lang/Object") (0 : Int32) [] .null) :
    Ct l Z (⟨"java/util/ArrayList", "grow", "(I)[Ljava/lang/Object;"⟩ : MethodName) jdk_38_method_6_code 4 (some (.array (.object "java/lang/Object"))) [] ({ frames := 1, cells := 1, slots := 10, locals := 14 } : Room) #[(.ref a), (.int (1 : Int32))] h0 (Q_grow1 Z a mc d0 kd h0 n0) := by
  refine own_body (plainFor_of_name pn_2) (fun m => ef_grow1 m a (1 : Int32)) ?_
  intro p e s m below meth c T0 hx hby hml hZ hown hnm hret hlk X0 e0
  have N0 := Fr.nil n0
  refine g_aloadN X0 hx (hb hby d_jdk_38_m_6_0) rfl rfl rfl ?_
  refine g_getF X0 hx hZ hown (host := "") (Or.inl (hw _ (List.mem_of_getElem? (i := 32) rfl))) Via.refl e0 F_elementData_a (hb hby d_jdk_38_m_6_1) rfl fun T1 X1 e1 => ?_
  refine g_len X1 hx hZ e1 (V0_d0.ext old0.2) (hb hby d_jdk_38_m_6_4) rfl ?_
  refine g_istoreN X1 hx (Ls' := #[.val (.ref a), .val (.int (1 : Int32)), .val (.int (0 : Int32)), .unset]) (hb hby d_jdk_38_m_6_5) rfl rfl ?_
  refine g_iloadN X1 hx (hb hby d_jdk_38_m_6_6) rfl rfl ?_
  refine g_ifN X1 hx (hb hby d_jdk_38_m_6_7) rfl (XT.i0_gt_f (by decide : ¬ (0 : Int32) < (0 : Int32))) ?_
  refine g_aloadN X1 hx (hb hby d_jdk_38_m_6_10) rfl rfl rfl ?_
  refine g_getF X1 hx hZ hown (host := "") (Or.inl (hw _ (List.mem_of_getElem? (i := 32) rfl))) Via.refl e1 F_elementData_a (hb hby d_jdk_38_m_6_11) rfl fun T2 X2 e2 => ?_
  refine g_getS X2 hx hZ hown (host := "") (Or.inl (hw _ (List.mem_of_getElem? (i := 31) rfl))) Via.refl e2 (Sta.ext old0.2 S0_DEFAULTCAPACITY_EMPTY_ELEMENTDATA) (hb hby d_jdk_38_m_6_14) rfl fun T3 X3 e3 => ?_
  refine g_acmp X3 hx (q := 45) (same := true) (hb hby d_jdk_38_m_6_17) rfl rfl (decide_eq_true rfl) (by decide) (by decide) ?_
  refine g_aloadN X3 hx (hb hby d_jdk_38_m_6_45) rfl rfl rfl ?_
  refine g_bipush X3 hx (r := (10 : Int32)) (hb hby d_jdk_38_m_6_46) rfl rfl ?_
  refine g_iloadN X3 hx (hb hby d_jdk_38_m_6_48) rfl rfl ?_
  refine g_static X3 hx hZ hown (hw _ (List.mem_of_getElem? (i := 84) rfl)) (hw _ (List.mem_of_getElem? (i := 85) rfl)) (hw _ (List.mem_of_getElem? (i := 86) rfl)) (hw _ (List.mem_of_getElem? (i := 87) rfl)) (by decide) (rm_maxX l Z a0 hw (10 : Int32) (1 : Int32) h0 n0 Z0 (by first | decide | assumption | rfl | (intro _; rfl))) (by rw [hml]; rfl) e3 [(.int (10 : Int32)), (.int (1 : Int32))] rfl rfl (W := 1) (Nat.le_of_eq rfl) (by decide) (by decide) (by decide) (by decide) (lenOf pd_1 rfl) (hb hby d_jdk_38_m_6_49) rfl fun v4 T4 L4 X4 hQ4 => ?_
  obtain ⟨rfl, Nq4, eh4⟩ := hQ4
  have N4 := Fr.app N0 Nq4
  show Ga _ _ _ _ _ _ _ _ _ _ _ [(.int (10 : Int32)), (.ref a)]
  refine g_anewarray X4 hx hZ hown (hw _ (List.mem_of_getElem? (i := 88) rfl)) (hw _ (List.mem_of_getElem? (i := 89) rfl)) eh4 (by decide) 10 (by decide) (by decide) (by decide) (by decide) (ad := "[Ljava/lang/Object;") (by decide) (hb hby d_jdk_38_m_6_52) rfl fun T5 h5 b5 ka5 X5 e5 q5 E5 A5 O5 V5 => ?_
  have ne_a_b5 : a ≠ b5 := own_ne F_elementData_a.lt q5
  have g_b5 : n0 ≤ b5 := Nat.le_trans Z0 (Nat.le_of_eq q5.symm)
  have sz_b5 : h0.size ≤ b5 := Nat.le_trans (Keep.refl h0 [a]).1 (Nat.le_of_eq q5.symm)
  have Z5 : n0 ≤ h5.size := Nat.le_trans Z0 E5.1
  have kk5 : Keep h0 h5 [a] := (Keep.refl h0 [a]).ext E5
  have Vn5 : Arv Z h5 b5 ka5 (.object "java/lang/Object") (10 : Int32) [.null, .null, .null, .null, .null, .null, .null, .null, .null, .null] .null := V5
  refine g_dup_x1 X5 hx (hb hby d_jdk_38_m_6_55) rfl rfl rfl ?_
  have f7 : Fld Z h5 a "java/util/ArrayList" "elementData" "[Ljava/lang/Object;" (.ref d0) := (F_elementData_a.ext E5)
  have f8 : Exa Z h5 a "java/util/ArrayList" := (E_a.ext E5)
  refine g_putF X5 hx hZ hown (host := "") (Or.inl (hw _ (List.mem_of_getElem? (i := 32) rfl))) Via.refl e5 f7 f8 (Or.inl (hw _ (List.mem_of_getElem? (i := 33) rfl))) (hw _ (List.mem_of_getElem? (i := 11) rfl)) (ty := (.array (.object "java/lang/Object"))) (by decide) rfl rfl (hb hby d_jdk_38_m_6_56) rfl fun T6 h6 X6 e6 W6 F6 => ?_
  have kk6 : Keep h0 h6 [a] := kk5.wr W6 (Or.inl (by simp))
  have N6 := Fr.snoc X6 N4 g_a
  have Z6 : n0 ≤ h6.size := by rw [W6.size]; exact Z5
  have f9 : Exa Z h6 a "java/util/ArrayList" := (f8.wr W6)
  have f10 : Fld Z h6 a "java/util/ArrayList" "size" "I" (.int (0 : Int32)) := ((F_size_a.ext E5).other W6 (Or.inr (slot_ne (Or.inl (hw _ (List.mem_of_getElem? (i := 68) rfl))) (Or.inl (hw _ (List.mem_of_getElem? (i := 33) rfl))) (by decide) (t := .int) (t' := (.array (.object "java/lang/Object"))) (by decide) (by decide))))
  have f11 : Fld Z h6 a "java/util/AbstractList" "modCount" "I" (.int mc) := ((F_modCount_a.ext E5).other W6 (Or.inr (slot_ne (Or.inl (hw _ (List.mem_of_getElem? (i := 30) rfl))) (Or.inl (hw _ (List.mem_of_getElem? (i := 33) rfl))) (by decide) (t := .int) (t' := (.array (.object "java/lang/Object"))) (by decide) (by decide))))
  have f12 : Arv Z h6 b5 ka5 (.object "java/lang/Object") (10 : Int32) [.null, .null, .null, .null, .null, .null, .null, .null, .null, .null] .null := (Vn5.other W6 (Ne.symm ne_a_b5))
  exact g_retR X6 hx hret hlk rfl rfl rfl (hb hby d_jdk_38_m_6_59) (by decide) (by decide) (by rw [e6]; exact ⟨b5, ka5, rfl, N6, kk6, sz_b5, f9, F6, f10, f11, O5, f12⟩)
def Q_grow0 (Z : State) (a : Addr) (mc : Int32) (d0 : Addr) (kd : ClassId) (h0 : Heap) (n0 : Nat) (v : Option Value) (h : Heap) (L : List Loc) : Prop := ∃ (b : Addr) (kb : ClassId), v = some (.ref b) ∧ Fr n0 L ∧ Keep h0 h [a] ∧ h0.size ≤ b ∧ Exa Z h a "java/util/ArrayList" ∧ Fld Z h a "java/util/ArrayList" "elementData" "[Ljava/lang/Object;" (.ref b) ∧ Fld Z h a "java/util/ArrayList" "size" "I" (.int (0 : Int32)) ∧ Fld Z h a "java/util/AbstractList" "modCount" "I" (.int mc) ∧ Ovr Z kb "java/lang/Object" ∧ Arv Z h b kb (.object "java/lang/Object") (10 : Int32) [.null, .null, .null, .null, .null, .null, .null, .null, .null, .null] .null
theorem ef_grow0 (m : MethodId) (x0 : Addr) : entryFrame m #[(.ref x0)] 1 = mkF m 0 #[.val (.ref x0)] [] := by first | (simp [entryFrame, mkF, argsToLocals, Value.category]; done) | rfl
set_option maxRecDepth 65536 in
set_option maxHeartbeats 40000000 in
theorem rm_grow0 (l : Launch) (Z : State) (a0 : Array Value) (hw : ∀ d ∈ tables_1, d.before a0 Z = true) (a : Addr) (mc : Int32) (d0 : Addr) (kd : ClassId) (h0 : Heap) (n0 : Nat) (Z0 : n0 ≤ h0.size) (F_elementData_a : Fld Z h0 a "java/util/ArrayList" "elementData" "[Ljava/lang/Object;" (.ref d0)) (F_size_a : Fld Z h0 a "java/util/ArrayList" "size" "I" (.int (0 : Int32))) (F_modCount_a : Fld Z h0 a "java/util/AbstractList" "modCount" "I" (.int mc)) (E_a : Exa Z h0 a "java/util/ArrayList") (g_a : n0 ≤ a) (old0 : Old Z n0 h0) (S0_DEFAULTCAPACITY_EMPTY_ELEMENTDATA : Sta Z Z.heap "java/util/ArrayList" "DEFAULTCAPACITY_EMPTY_ELEMENTDATA" "[Ljava/lang/Object;" (.ref d0)) (V0_d0 : Arv Z Z.heap d0 kd (.object "java/lang/Object") (0 : Int32) [] .null) :
    Ct l Z (⟨"java/util/ArrayList", "grow", "()[Ljava/lang/Object;"⟩ : MethodName) jdk_38_method_7_code 1 (some (.array (.object "java/lang/Object"))) [] ({ frames := 2, cells := 1, slots := 10, locals := 29 } : Room) #[(.ref a)] h0 (Q_grow0 Z a mc d0 kd h0 n0) := by
  refine own_body (plainFor_of_name pn_2) (fun m => ef_grow0 m a) ?_
  intro p e s m below meth c T0 hx hby hml hZ hown hnm hret hlk X0 e0
  have N0 := Fr.nil n0
  refine g_aloadN X0 hx (hb hby d_jdk_38_m_7_0) rfl rfl rfl ?_
  refine g_aloadN X0 hx (hb hby d_jdk_38_m_7_1) rfl rfl rfl ?_
  refine g_getF X0 hx hZ hown (host := "") (Or.inl (hw _ (List.mem_of_getElem? (i := 67) rfl))) Via.refl e0 F_size_a (hb hby d_jdk_38_m_7_2) rfl fun T1 X1 e1 => ?_
  refine g_iconst X1 hx (r := (1 : Int32)) (hb hby d_jdk_38_m_7_5) rfl rfl ?_
  refine g_iadd X1 hx (r := (1 : Int32)) (hb hby d_jdk_38_m_7_6) rfl rfl ?_
  refine g_private X1 hx hZ hown (hw _ (List.mem_of_getElem? (i := 79) rfl)) (hw _ (List.mem_of_getElem? (i := 80) rfl)) (hw _ (List.mem_of_getElem? (i := 11) rfl)) (hw _ (List.mem_of_getElem? (i := 81) rfl)) (hw _ (List.mem_of_getElem? (i := 12) rfl)) (hw _ (List.mem_of_getElem? (i := 83) rfl)) (by decide) (a := a) E_a (rm_grow1 l Z a0 hw a mc d0 kd h0 n0 Z0 F_elementData_a F_size_a F_modCount_a E_a g_a old0 S0_DEFAULTCAPACITY_EMPTY_ELEMENTDATA V0_d0) (by rw [hml]; rfl) e1 [(.int (1 : Int32))] rfl rfl (W := 0) (Nat.le_of_eq rfl) (by decide) (by decide) (by decide) (by decide) (lenOf pd_2 rfl) (hb hby d_jdk_38_m_7_7) rfl fun v2 T2 L2 X2 hQ2 => ?_
  obtain ⟨b_2, kb_2, rfl, Nq2, kc2, p2_0, p2_1, p2_2, p2_3, p2_4, p2_5, p2_6⟩ := hQ2
  have N2 := Fr.app N0 Nq2
  have ne_a_b_2 : a ≠ b_2 := own_neK F_elementData_a.lt p2_0
  have g_b_2 : n0 ≤ b_2 := Nat.le_trans Z0 p2_0
  have sz_b_2 : h0.size ≤ b_2 := Nat.le_trans (Keep.refl h0 [a]).1 p2_0
  have kk2 : Keep h0 T2.heap [a] := (Keep.refl h0 [a]).trans kc2 (allS (Or.inl (by simp)) all0)
  have Z2 : n0 ≤ T2.heap.size := Nat.le_trans Z0 kc2.1
  have pv2_6 : Arv Z T2.heap b_2 kb_2 (.object "java/lang/Object") (10 : Int32) [.null, .null, .null, .null, .null, .null, .null, .null, .null, .null] .null := p2_6
  show Ga _ _ _ _ _ _ _ _ _ _ _ [(.ref b_2)]
  exact g_retR X2 hx hret hlk rfl rfl rfl (hb hby d_jdk_38_m_7_10) (by decide) (by decide) ⟨b_2, kb_2, rfl, N2, kk2, sz_b_2, p2_1, p2_2, p2_3, p2_4, p2_5, pv2_6⟩
def Q_add3f (Z : State) (a : Addr) (mc : Int32) (d0 : Addr) (kd : ClassId) (x : Addr) (h0 : Heap) (n0 : Nat) (v : Option Value) (h : Heap) (L : List Loc) : Prop := ∃ (b : Addr) (kb : ClassId), v = none ∧ Fr n0 L ∧ Keep h0 h [a] ∧ h0.size ≤ b ∧ Exa Z h a "java/util/ArrayList" ∧ Fld Z h a "java/util/ArrayList" "elementData" "[Ljava/lang/Object;" (.ref b) ∧ Fld Z h a "java/util/ArrayList" "size" "I" (.int (1 : Int32)) ∧ Fld Z h a "java/util/AbstractList" "modCount" "I" (.int mc) ∧ Ovr Z kb "java/lang/Object" ∧ Arv Z h b kb (.object "java/lang/Object") (10 : Int32) [(.ref x), .null, .null, .null, .null, .null, .null, .null, .null, .null] .null
theorem ef_add3f (m : MethodId) (x0 : Addr) (x1 : Addr) (x2 : Addr) (x3 : Int32) : entryFrame m #[(.ref x0), (.ref x1), (.ref x2), (.int x3)] 4 = mkF m 0 #[.val (.ref x0), .val (.ref x1), .val (.ref x2), .val (.int x3)] [] := by first | (simp [entryFrame, mkF, argsToLocals, Value.category]; done) | rfl
set_option maxRecDepth 65536 in
set_option maxHeartbeats 40000000 in
theorem rm_add3f (l : Launch) (Z : State) (a0 : Array Value) (hw : ∀ d ∈ tables_1, d.before a0 Z = true) (a : Addr) (mc : Int32) (d0 : Addr) (kd : ClassId) (x : Addr) (h0 : Heap) (n0 : Nat) (Z0 : n0 ≤ h0.size) (F_elementData_a : Fld Z h0 a "java/util/ArrayList" "elementData" "[Ljava/lang/Object;" (.ref d0)) (F_size_a : Fld Z h0 a "java/util/ArrayList" "size" "I" (.int (0 : Int32))) (F_modCount_a : Fld Z h0 a "java/util/AbstractList" "modCount" "I" (.int mc)) (E_a : Exa Z h0 a "java/util/ArrayList") (g_a : n0 ≤ a) (old0 : Old Z n0 h0) (S0_DEFAULTCAPACITY_EMPTY_ELEMENTDATA : Sta Z Z.heap "java/util/ArrayList" "DEFAULTCAPACITY_EMPTY_ELEMENTDATA" "[Ljava/lang/Object;" (.ref d0)) (V0_d0 : Arv Z Z.heap d0 kd (.object "java/lang/Object") (0 : Int32) [] .null) (I_x_8 : Ins Z h0 x "java/lang/Object" true) :
    Ct l Z (⟨"java/util/ArrayList", "add", "(Ljava/lang/Object;[Ljava/lang/Object;I)V"⟩ : MethodName) jdk_38_method_24_code 4 none [] ({ frames := 3, cells := 1, slots := 10, locals := 41 } : Room) #[(.ref a), (.ref x), (.ref d0), (.int (0 : Int32))] h0 (Q_add3f Z a mc d0 kd x h0 n0) := by
  refine own_body (plainFor_of_name pn_2) (fun m => ef_add3f m a x d0 (0 : Int32)) ?_
  intro p e s m below meth c T0 hx hby hml hZ hown hnm hret hlk X0 e0
  have N0 := Fr.nil n0
  refine g_iloadN X0 hx (hb hby d_jdk_38_m_24_0) rfl rfl ?_
  refine g_aloadN X0 hx (hb hby d_jdk_38_m_24_1) rfl rfl rfl ?_
  refine g_len X0 hx hZ e0 (V0_d0.ext old0.2) (hb hby d_jdk_38_m_24_2) rfl ?_
  refine g_icmpN X0 hx (hb hby d_jdk_38_m_24_3) rfl (XT.ii_ne_f (by decide : (0 : Int32) = (0 : Int32))) ?_
  refine g_aloadN X0 hx (hb hby d_jdk_38_m_24_6) rfl rfl rfl ?_
  refine g_private X0 hx hZ hown (hw _ (List.mem_of_getElem? (i := 74) rfl)) (hw _ (List.mem_of_getElem? (i := 75) rfl)) (hw _ (List.mem_of_getElem? (i := 11) rfl)) (hw _ (List.mem_of_getElem? (i := 76) rfl)) (hw _ (List.mem_of_getElem? (i := 12) rfl)) (hw _ (List.mem_of_getElem? (i := 78) rfl)) (by decide) (a := a) E_a (rm_grow0 l Z a0 hw a mc d0 kd h0 n0 Z0 F_elementData_a F_size_a F_modCount_a E_a g_a old0 S0_DEFAULTCAPACITY_EMPTY_ELEMENTDATA V0_d0) (by rw [hml]; rfl) e0 [] rfl rfl (W := 0) (Nat.le_of_eq rfl) (by decide) (by decide) (by decide) (by decide) (lenOf pd_3 rfl) (hb hby d_jdk_38_m_24_7) rfl fun v1 T1 L1 X1 hQ1 => ?_
  obtain ⟨b_1, kb_1, rfl, Nq1, kc1, p1_0, p1_1, p1_2, p1_3, p1_4, p1_5, p1_6⟩ := hQ1
  have N1 := Fr.app N0 Nq1
  have ne_a_b_1 : a ≠ b_1 := own_neK F_elementData_a.lt p1_0
  have g_b_1 : n0 ≤ b_1 := Nat.le_trans Z0 p1_0
  have sz_b_1 : h0.size ≤ b_1 := Nat.le_trans (Keep.refl h0 [a]).1 p1_0
  have kk1 : Keep h0 T1.heap [a] := (Keep.refl h0 [a]).trans kc1 (allS (Or.inl (by simp)) all0)
  have Z1 : n0 ≤ T1.heap.size := Nat.le_trans Z0 kc1.1
  have pv1_6 : Arv Z T1.heap b_1 kb_1 (.object "java/lang/Object") (10 : Int32) [.null, .null, .null, .null, .null, .null, .null, .null, .null, .null] .null := p1_6
  show Ga _ _ _ _ _ _ _ _ _ _ _ [(.ref b_1)]
  refine g_astoreN X1 hx (Ls' := #[.val (.ref a), .val (.ref x), .val (.ref b_1), .val (.int (0 : Int32))]) (hb hby d_jdk_38_m_24_10) rfl rfl rfl ?_
  refine g_aloadN X1 hx (hb hby d_jdk_38_m_24_11) rfl rfl rfl ?_
  refine g_iloadN X1 hx (hb hby d_jdk_38_m_24_12) rfl rfl ?_
  refine g_aloadN X1 hx (hb hby d_jdk_38_m_24_13) rfl rfl rfl ?_
  have f3 : Ins Z T1.heap x "java/lang/Object" true := (own_insK I_x_8 kc1)
  refine g_aastore X1 hx hZ rfl pv1_6 rfl (x := .ref x) rfl (own_sto pv1_6 p1_5 f3) ⟨by decide, by decide⟩ (Nat.le_of_ble_eq_true rfl) (hb hby d_jdk_38_m_24_14) rfl fun T2 h2 X2 e2 W2 V2 => ?_
  have Vn2 : Arv Z h2 b_1 kb_1 (.object "java/lang/Object") (10 : Int32) [(.ref x), .null, .null, .null, .null, .null, .null, .null, .null, .null] .null := V2
  have kk2 : Keep h0 h2 [a] := kk1.wr W2 (Or.inr sz_b_1)
  have N2 := Fr.snoc X2 N1 g_b_1
  have Z2 : n0 ≤ h2.size := by rw [W2.size]; exact Z1
  refine g_aloadN X2 hx (hb hby d_jdk_38_m_24_15) rfl rfl rfl ?_
  refine g_iloadN X2 hx (hb hby d_jdk_38_m_24_16) rfl rfl ?_
  refine g_iconst X2 hx (r := (1 : Int32)) (hb hby d_jdk_38_m_24_17) rfl rfl ?_
  refine g_iadd X2 hx (r := (1 : Int32)) (hb hby d_jdk_38_m_24_18) rfl rfl ?_
  have f5 : Fld Z h2 a "java/util/ArrayList" "size" "I" (.int (0 : Int32)) := (p1_3.other W2 (Or.inl ne_a_b_1))
  have f6 : Exa Z h2 a "java/util/ArrayList" := (p1_1.wr W2)
  refine g_putF X2 hx hZ hown (host := "") (Or.inl (hw _ (List.mem_of_getElem? (i := 67) rfl))) Via.refl e2 f5 f6 (Or.inl (hw _ (List.mem_of_getElem? (i := 68) rfl))) (hw _ (List.mem_of_getElem? (i := 11) rfl)) (ty := .int) (by decide) rfl rfl (hb hby d_jdk_38_m_24_19) rfl fun T4 h4 X4 e4 W4 F4 => ?_
  have kk4 : Keep h0 h4 [a] := kk2.wr W4 (Or.inl (by simp))
  have N4 := Fr.snoc X4 N2 g_a
  have Z4 : n0 ≤ h4.size := by rw [W4.size]; exact Z2
  have f7 : Exa Z h4 a "java/util/ArrayList" := (f6.wr W4)
  have f8 : Fld Z h4 a "java/util/ArrayList" "elementData" "[Ljava/lang/Object;" (.ref b_1) := ((p1_2.other W2 (Or.inl ne_a_b_1)).other W4 (Or.inr (slot_ne (Or.inl (hw _ (List.mem_of_getElem? (i := 33) rfl))) (Or.inl (hw _ (List.mem_of_getElem? (i := 68) rfl))) (by decide) (t := (.array (.object "java/lang/Object"))) (t' := .int) (by decide) (by decide))))
  have f9 : Fld Z h4 a "java/util/AbstractList" "modCount" "I" (.int mc) := ((p1_4.other W2 (Or.inl ne_a_b_1)).other W4 (Or.inr (slot_ne (Or.inl (hw _ (List.mem_of_getElem? (i := 30) rfl))) (Or.inl (hw _ (List.mem_of_getElem? (i := 68) rfl))) (by decide) (t := .int) (t' := .int) (by decide) (by decide))))
  have f10 : Arv Z h4 b_1 kb_1 (.object "java/lang/Object") (10 : Int32) [(.ref x), .null, .null, .null, .null, .null, .null, .null, .null, .null] .null := (Vn2.other W4 (Ne.symm ne_a_b_1))
  exact g_ret X4 hx hret hlk (hb hby d_jdk_38_m_24_22) (by decide) (by decide) (by rw [e4]; exact ⟨b_1, kb_1, rfl, N4, kk4, sz_b_1, f7, f8, F4, f9, p1_5, f10⟩)
def Q_addf (Z : State) (a : Addr) (mc : Int32) (d0 : Addr) (kd : ClassId) (x : Addr) (h0 : Heap) (n0 : Nat) (v : Option Value) (h : Heap) (L : List Loc) : Prop := ∃ (b : Addr) (kb : ClassId), v = some (.int (1 : Int32)) ∧ Fr n0 L ∧ Keep h0 h [a] ∧ h0.size ≤ b ∧ Exa Z h a "java/util/ArrayList" ∧ Fld Z h a "java/util/ArrayList" "elementData" "[Ljava/lang/Object;" (.ref b) ∧ Fld Z h a "java/util/ArrayList" "size" "I" (.int (1 : Int32)) ∧ Fld Z h a "java/util/AbstractList" "modCount" "I" (.int (mc + (1 : Int32))) ∧ Ovr Z kb "java/lang/Object" ∧ Arv Z h b kb (.object "java/lang/Object") (10 : Int32) [(.ref x), .null, .null, .null, .null, .null, .null, .null, .null, .null] .null
theorem ef_addf (m : MethodId) (x0 : Addr) (x1 : Addr) : entryFrame m #[(.ref x0), (.ref x1)] 2 = mkF m 0 #[.val (.ref x0), .val (.ref x1)] [] := by first | (simp [entryFrame, mkF, argsToLocals, Value.category]; done) | rfl
set_option maxRecDepth 65536 in
set_option maxHeartbeats 40000000 in
theorem rm_addf (l : Launch) (Z : State) (a0 : Array Value) (hw : ∀ d ∈ tables_1, d.before a0 Z = true) (a : Addr) (mc : Int32) (d0 : Addr) (kd : ClassId) (x : Addr) (h0 : Heap) (n0 : Nat) (Z0 : n0 ≤ h0.size) (F_elementData_a : Fld Z h0 a "java/util/ArrayList" "elementData" "[Ljava/lang/Object;" (.ref d0)) (F_size_a : Fld Z h0 a "java/util/ArrayList" "size" "I" (.int (0 : Int32))) (F_modCount_a : Fld Z h0 a "java/util/AbstractList" "modCount" "I" (.int mc)) (E_a : Exa Z h0 a "java/util/ArrayList") (g_a : n0 ≤ a) (old0 : Old Z n0 h0) (S0_DEFAULTCAPACITY_EMPTY_ELEMENTDATA : Sta Z Z.heap "java/util/ArrayList" "DEFAULTCAPACITY_EMPTY_ELEMENTDATA" "[Ljava/lang/Object;" (.ref d0)) (V0_d0 : Arv Z Z.heap d0 kd (.object "java/lang/Object") (0 : Int32) [] .null) (I_x_8 : Ins Z h0 x "java/lang/Object" true) :
    Ct l Z (⟨"java/util/ArrayList", "add", "(Ljava/lang/Object;)Z"⟩ : MethodName) jdk_38_method_25_code 2 (some .boolean) [] ({ frames := 4, cells := 1, slots := 10, locals := 56 } : Room) #[(.ref a), (.ref x)] h0 (Q_addf Z a mc d0 kd x h0 n0) := by
  refine own_body (plainFor_of_name pn_2) (fun m => ef_addf m a x) ?_
  intro p e s m below meth c T0 hx hby hml hZ hown hnm hret hlk X0 e0
  have N0 := Fr.nil n0
  refine g_aloadN X0 hx (hb hby d_jdk_38_m_25_0) rfl rfl rfl ?_
  refine g_dup X0 hx (hb hby d_jdk_38_m_25_1) rfl rfl ?_
  refine g_getF X0 hx hZ hown (host := "") (Or.inl (hw _ (List.mem_of_getElem? (i := 65) rfl))) (Via.of (hw _ (List.mem_of_getElem? (i := 66) rfl))) e0 F_modCount_a (hb hby d_jdk_38_m_25_2) rfl fun T1 X1 e1 => ?_
  refine g_iconst X1 hx (r := (1 : Int32)) (hb hby d_jdk_38_m_25_5) rfl rfl ?_
  refine g_iadd X1 hx (hb hby d_jdk_38_m_25_6) rfl rfl ?_
  refine g_putF X1 hx hZ hown (host := "") (Or.inl (hw _ (List.mem_of_getElem? (i := 65) rfl))) (Via.of (hw _ (List.mem_of_getElem? (i := 66) rfl))) e1 F_modCount_a E_a (Or.inl (hw _ (List.mem_of_getElem? (i := 30) rfl))) (hw _ (List.mem_of_getElem? (i := 11) rfl)) (ty := .int) (by decide) rfl rfl (hb hby d_jdk_38_m_25_7) rfl fun T2 h2 X2 e2 W2 F2 => ?_
  have kk2 : Keep h0 h2 [a] := (Keep.refl h0 [a]).wr W2 (Or.inl (by simp))
  have N2 := Fr.snoc X2 N0 g_a
  have Z2 : n0 ≤ h2.size := by rw [W2.size]; exact Z0
  refine g_aloadN X2 hx (hb hby d_jdk_38_m_25_10) rfl rfl rfl ?_
  refine g_aloadN X2 hx (hb hby d_jdk_38_m_25_11) rfl rfl rfl ?_
  refine g_aloadN X2 hx (hb hby d_jdk_38_m_25_12) rfl rfl rfl ?_
  have f4 : Fld Z h2 a "java/util/ArrayList" "elementData" "[Ljava/lang/Object;" (.ref d0) := (F_elementData_a.other W2 (Or.inr (slot_ne (Or.inl (hw _ (List.mem_of_getElem? (i := 33) rfl))) (Or.inl (hw _ (List.mem_of_getElem? (i := 30) rfl))) (by decide) (t := (.array (.object "java/lang/Object"))) (t' := .int) (by decide) (by decide))))
  refine g_getF X2 hx hZ hown (host := "") (Or.inl (hw _ (List.mem_of_getElem? (i := 32) rfl))) Via.refl e2 f4 (hb hby d_jdk_38_m_25_13) rfl fun T3 X3 e3 => ?_
  refine g_aloadN X3 hx (hb hby d_jdk_38_m_25_16) rfl rfl rfl ?_
  have f6 : Fld Z h2 a "java/util/ArrayList" "size" "I" (.int (0 : Int32)) := (F_size_a.other W2 (Or.inr (slot_ne (Or.inl (hw _ (List.mem_of_getElem? (i := 68) rfl))) (Or.inl (hw _ (List.mem_of_getElem? (i := 30) rfl))) (by decide) (t := .int) (t' := .int) (by decide) (by decide))))
  refine g_getF X3 hx hZ hown (host := "") (Or.inl (hw _ (List.mem_of_getElem? (i := 67) rfl))) Via.refl e3 f6 (hb hby d_jdk_38_m_25_17) rfl fun T5 X5 e5 => ?_
  have f8 : Exa Z h2 a "java/util/ArrayList" := (E_a.wr W2)
  have f9 : Old Z n0 h2 := (old0.wr W2 g_a)
  have f10 : Ins Z h2 x "java/lang/Object" true := (I_x_8.wr W2)
  refine g_private X5 hx hZ hown (hw _ (List.mem_of_getElem? (i := 69) rfl)) (hw _ (List.mem_of_getElem? (i := 70) rfl)) (hw _ (List.mem_of_getElem? (i := 11) rfl)) (hw _ (List.mem_of_getElem? (i := 71) rfl)) (hw _ (List.mem_of_getElem? (i := 12) rfl)) (hw _ (List.mem_of_getElem? (i := 73) rfl)) (by decide) (a := a) f8 (rm_add3f l Z a0 hw a (mc + (1 : Int32)) d0 kd x h2 n0 Z2 f4 f6 F2 f8 g_a f9 S0_DEFAULTCAPACITY_EMPTY_ELEMENTDATA V0_d0 f10) (by rw [hml]; rfl) e5 [(.ref x), (.ref d0), (.int (0 : Int32))] rfl rfl (W := 0) (Nat.le_of_eq rfl) (by decide) (by decide) (by decide) (by decide) (lenOf pd_4 rfl) (hb hby d_jdk_38_m_25_20) rfl fun v7 T7 L7 X7 hQ7 => ?_
  obtain ⟨b_7, kb_7, rfl, Nq7, kc7, p7_0, p7_1, p7_2, p7_3, p7_4, p7_5, p7_6⟩ := hQ7
  have N7 := Fr.app N2 Nq7
  have ne_a_b_7 : a ≠ b_7 := own_neK f4.lt p7_0
  have g_b_7 : n0 ≤ b_7 := Nat.le_trans Z2 p7_0
  have sz_b_7 : h0.size ≤ b_7 := Nat.le_trans kk2.1 p7_0
  have kk7 : Keep h0 T7.heap [a] := kk2.trans kc7 (allS (Or.inl (by simp)) all0)
  have Z7 : n0 ≤ T7.heap.size := Nat.le_trans Z2 kc7.1
  have pv7_6 : Arv Z T7.heap b_7 kb_7 (.object "java/lang/Object") (10 : Int32) [(.ref x), .null, .null, .null, .null, .null, .null, .null, .null, .null] .null := p7_6
  show Ga _ _ _ _ _ _ _ _ _ _ _ []
  refine g_iconst X7 hx (r := (1 : Int32)) (hb hby d_jdk_38_m_25_23) rfl rfl ?_
  exact g_retN X7 hx (t := .boolean) (r := (1 : Int32)) hret (by simp) hlk (hb hby d_jdk_38_m_25_24) rfl (by decide) (by decide) ⟨b_7, kb_7, rfl, N7, kk7, sz_b_7, p7_1, p7_2, p7_3, p7_4, p7_5, pv7_6⟩
def Q_add3 (Z : State) (a : Addr) (mc : Int32) (b : Addr) (kb : ClassId) (n : Int32) (vs : List Value) (x : Addr) (h0 : Heap) (n0 : Nat) (v : Option Value) (h : Heap) (L : List Loc) : Prop := v = none ∧ Fr n0 L ∧ Keep h0 h [a, b] ∧ Exa Z h a "java/util/ArrayList" ∧ Fld Z h a "java/util/ArrayList" "elementData" "[Ljava/lang/Object;" (.ref b) ∧ Fld Z h a "java/util/ArrayList" "size" "I" (.int (n + (1 : Int32))) ∧ Fld Z h a "java/util/AbstractList" "modCount" "I" (.int mc) ∧ Arv Z h b kb (.object "java/lang/Object") (10 : Int32) (List.set vs (n).toNatClampNeg (.ref x)) .null
theorem ef_add3 (m : MethodId) (x0 : Addr) (x1 : Addr) (x2 : Addr) (x3 : Int32) : entryFrame m #[(.ref x0), (.ref x1), (.ref x2), (.int x3)] 4 = mkF m 0 #[.val (.ref x0), .val (.ref x1), .val (.ref x2), .val (.int x3)] [] := by first | (simp [entryFrame, mkF, argsToLocals, Value.category]; done) | rfl
set_option maxRecDepth 65536 in
set_option maxHeartbeats 40000000 in
theorem rm_add3 (l : Launch) (Z : State) (a0 : Array Value) (hw : ∀ d ∈ tables_1, d.before a0 Z = true) (a : Addr) (mc : Int32) (b : Addr) (kb : ClassId) (n : Int32) (vs : List Value) (x : Addr) (h0 : Heap) (n0 : Nat) (Z0 : n0 ≤ h0.size) (F_elementData_a : Fld Z h0 a "java/util/ArrayList" "elementData" "[Ljava/lang/Object;" (.ref b)) (F_size_a : Fld Z h0 a "java/util/ArrayList" "size" "I" (.int n)) (F_modCount_a : Fld Z h0 a "java/util/AbstractList" "modCount" "I" (.int mc)) (E_a : Exa Z h0 a "java/util/ArrayList") (g_a : n0 ≤ a) (g_b : n0 ≤ b) (ne_a_b : a ≠ b) (V_b : Arv Z h0 b kb (.object "java/lang/Object") (10 : Int32) vs .null) (O_kb : Ovr Z kb "java/lang/Object") (hn0 : ¬ n < (0 : Int32)) (hn1 : n < (10 : Int32)) (hle : vs.length = 10) (I_x_12 : Ins Z h0 x "java/lang/Object" true) :
    Ct l Z (⟨"java/util/ArrayList", "add", "(Ljava/lang/Object;[Ljava/lang/Object;I)V"⟩ : MethodName) jdk_38_method_24_code 4 none [] ({ frames := 0, cells := 0, slots := 0, locals := 0 } : Room) #[(.ref a), (.ref x), (.ref b), (.int n)] h0 (Q_add3 Z a mc b kb n vs x h0 n0) := by
  refine own_body (plainFor_of_name pn_2) (fun m => ef_add3 m a x b n) ?_
  intro p e s m below meth c T0 hx hby hml hZ hown hnm hret hlk X0 e0
  have N0 := Fr.nil n0
  refine g_iloadN X0 hx (hb hby d_jdk_38_m_24_0) rfl rfl ?_
  refine g_aloadN X0 hx (hb hby d_jdk_38_m_24_1) rfl rfl rfl ?_
  refine g_len X0 hx hZ e0 V_b (hb hby d_jdk_38_m_24_2) rfl ?_
  have hc3 : ¬ n = (10 : Int32) := (fun q => absurd hn1 (by rw [q]; decide))
  refine g_icmpY X0 hx (q := 11) (hb hby d_jdk_38_m_24_3) (XT.ii_ne_t hc3) (by decide) (by decide) ?_
  refine g_aloadN X0 hx (hb hby d_jdk_38_m_24_11) rfl rfl rfl ?_
  refine g_iloadN X0 hx (hb hby d_jdk_38_m_24_12) rfl rfl ?_
  refine g_aloadN X0 hx (hb hby d_jdk_38_m_24_13) rfl rfl rfl ?_
  refine g_aastore X0 hx hZ e0 V_b rfl (x := .ref x) rfl (own_sto V_b O_kb I_x_12) ⟨hn0, hn1⟩ (by rw [hle]; exact own_nat hn0 hn1) (hb hby d_jdk_38_m_24_14) rfl fun T1 h1 X1 e1 W1 V1 => ?_
  have Vn1 : Arv Z h1 b kb (.object "java/lang/Object") (10 : Int32) (List.set vs (n).toNatClampNeg (.ref x)) .null := V1
  have kk1 : Keep h0 h1 [a, b] := (Keep.refl h0 [a, b]).wr W1 (Or.inl (by simp))
  have N1 := Fr.snoc X1 N0 g_b
  have Z1 : n0 ≤ h1.size := by rw [W1.size]; exact Z0
  refine g_aloadN X1 hx (hb hby d_jdk_38_m_24_15) rfl rfl rfl ?_
  refine g_iloadN X1 hx (hb hby d_jdk_38_m_24_16) rfl rfl ?_
  refine g_iconst X1 hx (r := (1 : Int32)) (hb hby d_jdk_38_m_24_17) rfl rfl ?_
  refine g_iadd X1 hx (hb hby d_jdk_38_m_24_18) rfl rfl ?_
  have f3 : Fld Z h1 a "java/util/ArrayList" "size" "I" (.int n) := (F_size_a.other W1 (Or.inl ne_a_b))
  have f4 : Exa Z h1 a "java/util/ArrayList" := (E_a.wr W1)
  refine g_putF X1 hx hZ hown (host := "") (Or.inl (hw _ (List.mem_of_getElem? (i := 67) rfl))) Via.refl e1 f3 f4 (Or.inl (hw _ (List.mem_of_getElem? (i := 68) rfl))) (hw _ (List.mem_of_getElem? (i := 11) rfl)) (ty := .int) (by decide) rfl rfl (hb hby d_jdk_38_m_24_19) rfl fun T2 h2 X2 e2 W2 F2 => ?_
  have kk2 : Keep h0 h2 [a, b] := kk1.wr W2 (Or.inl (by simp))
  have N2 := Fr.snoc X2 N1 g_a
  have Z2 : n0 ≤ h2.size := by rw [W2.size]; exact Z1
  have f5 : Exa Z h2 a "java/util/ArrayList" := (f4.wr W2)
  have f6 : Fld Z h2 a "java/util/ArrayList" "elementData" "[Ljava/lang/Object;" (.ref b) := ((F_elementData_a.other W1 (Or.inl ne_a_b)).other W2 (Or.inr (slot_ne (Or.inl (hw _ (List.mem_of_getElem? (i := 33) rfl))) (Or.inl (hw _ (List.mem_of_getElem? (i := 68) rfl))) (by decide) (t := (.array (.object "java/lang/Object"))) (t' := .int) (by decide) (by decide))))
  have f7 : Fld Z h2 a "java/util/AbstractList" "modCount" "I" (.int mc) := ((F_modCount_a.other W1 (Or.inl ne_a_b)).other W2 (Or.inr (slot_ne (Or.inl (hw _ (List.mem_of_getElem? (i := 30) rfl))) (Or.inl (hw _ (List.mem_of_getElem? (i := 68) rfl))) (by decide) (t := .int) (t' := .int) (by decide) (by decide))))
  have f8 : Arv Z h2 b kb (.object "java/lang/Object") (10 : Int32) (List.set vs (n).toNatClampNeg (.ref x)) .null := (Vn1.other W2 (Ne.symm ne_a_b))
  exact g_ret X2 hx hret hlk (hb hby d_jdk_38_m_24_22) (by decide) (by decide) (by rw [e2]; exact ⟨rfl, N2, kk2, f5, f6, F2, f7, f8⟩)
def Q_addn (Z : State) (a : Addr) (mc : Int32) (b : Addr) (kb : ClassId) (n : Int32) (vs : List Value) (x : Addr) (h0 : Heap) (n0 : Nat) (v : Option Value) (h : Heap) (L : List Loc) : Prop := v = some (.int (1 : Int32)) ∧ Fr n0 L ∧ Keep h0 h [a, b] ∧ Exa Z h a "java/util/ArrayList" ∧ Fld Z h a "java/util/ArrayList" "elementData" "[Ljava/lang/Object;" (.ref b) ∧ Fld Z h a "java/util/ArrayList" "size" "I" (.int (n + (1 : Int32))) ∧ Fld Z h a "java/util/AbstractList" "modCount" "I" (.int (mc + (1 : Int32))) ∧ Arv Z h b kb (.object "java/lang/Object") (10 : Int32) (List.set vs (n).toNatClampNeg (.ref x)) .null
theorem ef_addn (m : MethodId) (x0 : Addr) (x1 : Addr) : entryFrame m #[(.ref x0), (.ref x1)] 2 = mkF m 0 #[.val (.ref x0), .val (.ref x1)] [] := by first | (simp [entryFrame, mkF, argsToLocals, Value.category]; done) | rfl
set_option maxRecDepth 65536 in
set_option maxHeartbeats 40000000 in
theorem rm_addn (l : Launch) (Z : State) (a0 : Array Value) (hw : ∀ d ∈ tables_1, d.before a0 Z = true) (a : Addr) (mc : Int32) (b : Addr) (kb : ClassId) (n : Int32) (vs : List Value) (x : Addr) (h0 : Heap) (n0 : Nat) (Z0 : n0 ≤ h0.size) (F_elementData_a : Fld Z h0 a "java/util/ArrayList" "elementData" "[Ljava/lang/Object;" (.ref b)) (F_size_a : Fld Z h0 a "java/util/ArrayList" "size" "I" (.int n)) (F_modCount_a : Fld Z h0 a "java/util/AbstractList" "modCount" "I" (.int mc)) (E_a : Exa Z h0 a "java/util/ArrayList") (g_a : n0 ≤ a) (g_b : n0 ≤ b) (ne_a_b : a ≠ b) (V_b : Arv Z h0 b kb (.object "java/lang/Object") (10 : Int32) vs .null) (O_kb : Ovr Z kb "java/lang/Object") (hn0 : ¬ n < (0 : Int32)) (hn1 : n < (10 : Int32)) (hle : vs.length = 10) (I_x_12 : Ins Z h0 x "java/lang/Object" true) :
    Ct l Z (⟨"java/util/ArrayList", "add", "(Ljava/lang/Object;)Z"⟩ : MethodName) jdk_38_method_25_code 2 (some .boolean) [] ({ frames := 1, cells := 0, slots := 0, locals := 15 } : Room) #[(.ref a), (.ref x)] h0 (Q_addn Z a mc b kb n vs x h0 n0) := by
  refine own_body (plainFor_of_name pn_2) (fun m => ef_addn m a x) ?_
  intro p e s m below meth c T0 hx hby hml hZ hown hnm hret hlk X0 e0
  have N0 := Fr.nil n0
  refine g_aloadN X0 hx (hb hby d_jdk_38_m_25_0) rfl rfl rfl ?_
  refine g_dup X0 hx (hb hby d_jdk_38_m_25_1) rfl rfl ?_
  refine g_getF X0 hx hZ hown (host := "") (Or.inl (hw _ (List.mem_of_getElem? (i := 65) rfl))) (Via.of (hw _ (List.mem_of_getElem? (i := 66) rfl))) e0 F_modCount_a (hb hby d_jdk_38_m_25_2) rfl fun T1 X1 e1 => ?_
  refine g_iconst X1 hx (r := (1 : Int32)) (hb hby d_jdk_38_m_25_5) rfl rfl ?_
  refine g_iadd X1 hx (hb hby d_jdk_38_m_25_6) rfl rfl ?_
  refine g_putF X1 hx hZ hown (host := "") (Or.inl (hw _ (List.mem_of_getElem? (i := 65) rfl))) (Via.of (hw _ (List.mem_of_getElem? (i := 66) rfl))) e1 F_modCount_a E_a (Or.inl (hw _ (List.mem_of_getElem? (i := 30) rfl))) (hw _ (List.mem_of_getElem? (i := 11) rfl)) (ty := .int) (by decide) rfl rfl (hb hby d_jdk_38_m_25_7) rfl fun T2 h2 X2 e2 W2 F2 => ?_
  have kk2 : Keep h0 h2 [a, b] := (Keep.refl h0 [a, b]).wr W2 (Or.inl (by simp))
  have N2 := Fr.snoc X2 N0 g_a
  have Z2 : n0 ≤ h2.size := by rw [W2.size]; exact Z0
  refine g_aloadN X2 hx (hb hby d_jdk_38_m_25_10) rfl rfl rfl ?_
  refine g_aloadN X2 hx (hb hby d_jdk_38_m_25_11) rfl rfl rfl ?_
  refine g_aloadN X2 hx (hb hby d_jdk_38_m_25_12) rfl rfl rfl ?_
  have f4 : Fld Z h2 a "java/util/ArrayList" "elementData" "[Ljava/lang/Object;" (.ref b) := (F_elementData_a.other W2 (Or.inr (slot_ne (Or.inl (hw _ (List.mem_of_getElem? (i := 33) rfl))) (Or.inl (hw _ (List.mem_of_getElem? (i := 30) rfl))) (by decide) (t := (.array (.object "java/lang/Object"))) (t' := .int) (by decide) (by decide))))
  refine g_getF X2 hx hZ hown (host := "") (Or.inl (hw _ (List.mem_of_getElem? (i := 32) rfl))) Via.refl e2 f4 (hb hby d_jdk_38_m_25_13) rfl fun T3 X3 e3 => ?_
  refine g_aloadN X3 hx (hb hby d_jdk_38_m_25_16) rfl rfl rfl ?_
  have f6 : Fld Z h2 a "java/util/ArrayList" "size" "I" (.int n) := (F_size_a.other W2 (Or.inr (slot_ne (Or.inl (hw _ (List.mem_of_getElem? (i := 68) rfl))) (Or.inl (hw _ (List.mem_of_getElem? (i := 30) rfl))) (by decide) (t := .int) (t' := .int) (by decide) (by decide))))
  refine g_getF X3 hx hZ hown (host := "") (Or.inl (hw _ (List.mem_of_getElem? (i := 67) rfl))) Via.refl e3 f6 (hb hby d_jdk_38_m_25_17) rfl fun T5 X5 e5 => ?_
  have f8 : Exa Z h2 a "java/util/ArrayList" := (E_a.wr W2)
  have f9 : Arv Z h2 b kb (.object "java/lang/Object") (10 : Int32) vs .null := (V_b.other W2 (Ne.symm ne_a_b))
  have f10 : Ins Z h2 x "java/lang/Object" true := (I_x_12.wr W2)
  refine g_private X5 hx hZ hown (hw _ (List.mem_of_getElem? (i := 69) rfl)) (hw _ (List.mem_of_getElem? (i := 70) rfl)) (hw _ (List.mem_of_getElem? (i := 11) rfl)) (hw _ (List.mem_of_getElem? (i := 71) rfl)) (hw _ (List.mem_of_getElem? (i := 12) rfl)) (hw _ (List.mem_of_getElem? (i := 73) rfl)) (by decide) (a := a) f8 (rm_add3 l Z a0 hw a (mc + (1 : Int32)) b kb n vs x h2 n0 Z2 f4 f6 F2 f8 g_a g_b ne_a_b f9 O_kb hn0 hn1 hle f10) (by rw [hml]; rfl) e5 [(.ref x), (.ref b), (.int n)] rfl rfl (W := 0) (Nat.le_of_eq rfl) (by decide) (by decide) (by decide) (by decide) (lenOf pd_4 rfl) (hb hby d_jdk_38_m_25_20) rfl fun v7 T7 L7 X7 hQ7 => ?_
  obtain ⟨rfl, Nq7, kc7, p7_0, p7_1, p7_2, p7_3, p7_4⟩ := hQ7
  have N7 := Fr.app N2 Nq7
  have kk7 : Keep h0 T7.heap [a, b] := kk2.trans kc7 (allS (Or.inl (by simp)) (allS (Or.inl (by simp)) all0))
  have Z7 : n0 ≤ T7.heap.size := Nat.le_trans Z2 kc7.1
  show Ga _ _ _ _ _ _ _ _ _ _ _ []
  refine g_iconst X7 hx (r := (1 : Int32)) (hb hby d_jdk_38_m_25_23) rfl rfl ?_
  exact g_retN X7 hx (t := .boolean) (r := (1 : Int32)) hret (by simp) hlk (hb hby d_jdk_38_m_25_24) rfl (by decide) (by decide) ⟨rfl, N7, kk7, p7_0, p7_1, p7_2, p7_3, p7_4⟩
def Q_add3fN (Z : State) (a : Addr) (mc : Int32) (d0 : Addr) (kd : ClassId) (h0 : Heap) (n0 : Nat) (v : Option Value) (h : Heap) (L : List Loc) : Prop := ∃ (b : Addr) (kb : ClassId), v = none ∧ Fr n0 L ∧ Keep h0 h [a] ∧ h0.size ≤ b ∧ Exa Z h a "java/util/ArrayList" ∧ Fld Z h a "java/util/ArrayList" "elementData" "[Ljava/lang/Object;" (.ref b) ∧ Fld Z h a "java/util/ArrayList" "size" "I" (.int (1 : Int32)) ∧ Fld Z h a "java/util/AbstractList" "modCount" "I" (.int mc) ∧ Ovr Z kb "java/lang/Object" ∧ Arv Z h b kb (.object "java/lang/Object") (10 : Int32) [.null, .null, .null, .null, .null, .null, .null, .null, .null, .null] .null
theorem ef_add3fN (m : MethodId) (x0 : Addr) (x2 : Addr) (x3 : Int32) : entryFrame m #[(.ref x0), .null, (.ref x2), (.int x3)] 4 = mkF m 0 #[.val (.ref x0), .val .null, .val (.ref x2), .val (.int x3)] [] := by first | (simp [entryFrame, mkF, argsToLocals, Value.category]; done) | rfl
set_option maxRecDepth 65536 in
set_option maxHeartbeats 40000000 in
theorem rm_add3fN (l : Launch) (Z : State) (a0 : Array Value) (hw : ∀ d ∈ tables_1, d.before a0 Z = true) (a : Addr) (mc : Int32) (d0 : Addr) (kd : ClassId) (h0 : Heap) (n0 : Nat) (Z0 : n0 ≤ h0.size) (F_elementData_a : Fld Z h0 a "java/util/ArrayList" "elementData" "[Ljava/lang/Object;" (.ref d0)) (F_size_a : Fld Z h0 a "java/util/ArrayList" "size" "I" (.int (0 : Int32))) (F_modCount_a : Fld Z h0 a "java/util/AbstractList" "modCount" "I" (.int mc)) (E_a : Exa Z h0 a "java/util/ArrayList") (g_a : n0 ≤ a) (old0 : Old Z n0 h0) (S0_DEFAULTCAPACITY_EMPTY_ELEMENTDATA : Sta Z Z.heap "java/util/ArrayList" "DEFAULTCAPACITY_EMPTY_ELEMENTDATA" "[Ljava/lang/Object;" (.ref d0)) (V0_d0 : Arv Z Z.heap d0 kd (.object "java/lang/Object") (0 : Int32) [] .null) :
    Ct l Z (⟨"java/util/ArrayList", "add", "(Ljava/lang/Object;[Ljava/lang/Object;I)V"⟩ : MethodName) jdk_38_method_24_code 4 none [] ({ frames := 3, cells := 1, slots := 10, locals := 41 } : Room) #[(.ref a), .null, (.ref d0), (.int (0 : Int32))] h0 (Q_add3fN Z a mc d0 kd h0 n0) := by
  refine own_body (plainFor_of_name pn_2) (fun m => ef_add3fN m a d0 (0 : Int32)) ?_
  intro p e s m below meth c T0 hx hby hml hZ hown hnm hret hlk X0 e0
  have N0 := Fr.nil n0
  refine g_iloadN X0 hx (hb hby d_jdk_38_m_24_0) rfl rfl ?_
  refine g_aloadN X0 hx (hb hby d_jdk_38_m_24_1) rfl rfl rfl ?_
  refine g_len X0 hx hZ e0 (V0_d0.ext old0.2) (hb hby d_jdk_38_m_24_2) rfl ?_
  refine g_icmpN X0 hx (hb hby d_jdk_38_m_24_3) rfl (XT.ii_ne_f (by decide : (0 : Int32) = (0 : Int32))) ?_
  refine g_aloadN X0 hx (hb hby d_jdk_38_m_24_6) rfl rfl rfl ?_
  refine g_private X0 hx hZ hown (hw _ (List.mem_of_getElem? (i := 74) rfl)) (hw _ (List.mem_of_getElem? (i := 75) rfl)) (hw _ (List.mem_of_getElem? (i := 11) rfl)) (hw _ (List.mem_of_getElem? (i := 76) rfl)) (hw _ (List.mem_of_getElem? (i := 12) rfl)) (hw _ (List.mem_of_getElem? (i := 78) rfl)) (by decide) (a := a) E_a (rm_grow0 l Z a0 hw a mc d0 kd h0 n0 Z0 F_elementData_a F_size_a F_modCount_a E_a g_a old0 S0_DEFAULTCAPACITY_EMPTY_ELEMENTDATA V0_d0) (by rw [hml]; rfl) e0 [] rfl rfl (W := 0) (Nat.le_of_eq rfl) (by decide) (by decide) (by decide) (by decide) (lenOf pd_3 rfl) (hb hby d_jdk_38_m_24_7) rfl fun v1 T1 L1 X1 hQ1 => ?_
  obtain ⟨b_1, kb_1, rfl, Nq1, kc1, p1_0, p1_1, p1_2, p1_3, p1_4, p1_5, p1_6⟩ := hQ1
  have N1 := Fr.app N0 Nq1
  have ne_a_b_1 : a ≠ b_1 := own_neK F_elementData_a.lt p1_0
  have g_b_1 : n0 ≤ b_1 := Nat.le_trans Z0 p1_0
  have sz_b_1 : h0.size ≤ b_1 := Nat.le_trans (Keep.refl h0 [a]).1 p1_0
  have kk1 : Keep h0 T1.heap [a] := (Keep.refl h0 [a]).trans kc1 (allS (Or.inl (by simp)) all0)
  have Z1 : n0 ≤ T1.heap.size := Nat.le_trans Z0 kc1.1
  have pv1_6 : Arv Z T1.heap b_1 kb_1 (.object "java/lang/Object") (10 : Int32) [.null, .null, .null, .null, .null, .null, .null, .null, .null, .null] .null := p1_6
  show Ga _ _ _ _ _ _ _ _ _ _ _ [(.ref b_1)]
  refine g_astoreN X1 hx (Ls' := #[.val (.ref a), .val .null, .val (.ref b_1), .val (.int (0 : Int32))]) (hb hby d_jdk_38_m_24_10) rfl rfl rfl ?_
  refine g_aloadN X1 hx (hb hby d_jdk_38_m_24_11) rfl rfl rfl ?_
  refine g_iloadN X1 hx (hb hby d_jdk_38_m_24_12) rfl rfl ?_
  refine g_aloadN X1 hx (hb hby d_jdk_38_m_24_13) rfl rfl rfl ?_
  refine g_aastore X1 hx hZ rfl pv1_6 rfl (x := .null) rfl (Or.inl rfl) ⟨by decide, by decide⟩ (Nat.le_of_ble_eq_true rfl) (hb hby d_jdk_38_m_24_14) rfl fun T2 h2 X2 e2 W2 V2 => ?_
  have Vn2 : Arv Z h2 b_1 kb_1 (.object "java/lang/Object") (10 : Int32) [.null, .null, .null, .null, .null, .null, .null, .null, .null, .null] .null := V2
  have kk2 : Keep h0 h2 [a] := kk1.wr W2 (Or.inr sz_b_1)
  have N2 := Fr.snoc X2 N1 g_b_1
  have Z2 : n0 ≤ h2.size := by rw [W2.size]; exact Z1
  refine g_aloadN X2 hx (hb hby d_jdk_38_m_24_15) rfl rfl rfl ?_
  refine g_iloadN X2 hx (hb hby d_jdk_38_m_24_16) rfl rfl ?_
  refine g_iconst X2 hx (r := (1 : Int32)) (hb hby d_jdk_38_m_24_17) rfl rfl ?_
  refine g_iadd X2 hx (r := (1 : Int32)) (hb hby d_jdk_38_m_24_18) rfl rfl ?_
  have f4 : Fld Z h2 a "java/util/ArrayList" "size" "I" (.int (0 : Int32)) := (p1_3.other W2 (Or.inl ne_a_b_1))
  have f5 : Exa Z h2 a "java/util/ArrayList" := (p1_1.wr W2)
  refine g_putF X2 hx hZ hown (host := "") (Or.inl (hw _ (List.mem_of_getElem? (i := 67) rfl))) Via.refl e2 f4 f5 (Or.inl (hw _ (List.mem_of_getElem? (i := 68) rfl))) (hw _ (List.mem_of_getElem? (i := 11) rfl)) (ty := .int) (by decide) rfl rfl (hb hby d_jdk_38_m_24_19) rfl fun T3 h3 X3 e3 W3 F3 => ?_
  have kk3 : Keep h0 h3 [a] := kk2.wr W3 (Or.inl (by simp))
  have N3 := Fr.snoc X3 N2 g_a
  have Z3 : n0 ≤ h3.size := by rw [W3.size]; exact Z2
  have f6 : Exa Z h3 a "java/util/ArrayList" := (f5.wr W3)
  have f7 : Fld Z h3 a "java/util/ArrayList" "elementData" "[Ljava/lang/Object;" (.ref b_1) := ((p1_2.other W2 (Or.inl ne_a_b_1)).other W3 (Or.inr (slot_ne (Or.inl (hw _ (List.mem_of_getElem? (i := 33) rfl))) (Or.inl (hw _ (List.mem_of_getElem? (i := 68) rfl))) (by decide) (t := (.array (.object "java/lang/Object"))) (t' := .int) (by decide) (by decide))))
  have f8 : Fld Z h3 a "java/util/AbstractList" "modCount" "I" (.int mc) := ((p1_4.other W2 (Or.inl ne_a_b_1)).other W3 (Or.inr (slot_ne (Or.inl (hw _ (List.mem_of_getElem? (i := 30) rfl))) (Or.inl (hw _ (List.mem_of_getElem? (i := 68) rfl))) (by decide) (t := .int) (t' := .int) (by decide) (by decide))))
  have f9 : Arv Z h3 b_1 kb_1 (.object "java/lang/Object") (10 : Int32) [.null, .null, .null, .null, .null, .null, .null, .null, .null, .null] .null := (Vn2.other W3 (Ne.symm ne_a_b_1))
  exact g_ret X3 hx hret hlk (hb hby d_jdk_38_m_24_22) (by decide) (by decide) (by rw [e3]; exact ⟨b_1, kb_1, rfl, N3, kk3, sz_b_1, f6, f7, F3, f8, p1_5, f9⟩)
def Q_addfN (Z : State) (a : Addr) (mc : Int32) (d0 : Addr) (kd : ClassId) (h0 : Heap) (n0 : Nat) (v : Option Value) (h : Heap) (L : List Loc) : Prop := ∃ (b : Addr) (kb : ClassId), v = some (.int (1 : Int32)) ∧ Fr n0 L ∧ Keep h0 h [a] ∧ h0.size ≤ b ∧ Exa Z h a "java/util/ArrayList" ∧ Fld Z h a "java/util/ArrayList" "elementData" "[Ljava/lang/Object;" (.ref b) ∧ Fld Z h a "java/util/ArrayList" "size" "I" (.int (1 : Int32)) ∧ Fld Z h a "java/util/AbstractList" "modCount" "I" (.int (mc + (1 : Int32))) ∧ Ovr Z kb "java/lang/Object" ∧ Arv Z h b kb (.object "java/lang/Object") (10 : Int32) [.null, .null, .null, .null, .null, .null, .null, .null, .null, .null] .null
theorem ef_addfN (m : MethodId) (x0 : Addr) : entryFrame m #[(.ref x0), .null] 2 = mkF m 0 #[.val (.ref x0), .val .null] [] := by first | (simp [entryFrame, mkF, argsToLocals, Value.category]; done) | rfl
set_option maxRecDepth 65536 in
set_option maxHeartbeats 40000000 in
theorem rm_addfN (l : Launch) (Z : State) (a0 : Array Value) (hw : ∀ d ∈ tables_1, d.before a0 Z = true) (a : Addr) (mc : Int32) (d0 : Addr) (kd : ClassId) (h0 : Heap) (n0 : Nat) (Z0 : n0 ≤ h0.size) (F_elementData_a : Fld Z h0 a "java/util/ArrayList" "elementData" "[Ljava/lang/Object;" (.ref d0)) (F_size_a : Fld Z h0 a "java/util/ArrayList" "size" "I" (.int (0 : Int32))) (F_modCount_a : Fld Z h0 a "java/util/AbstractList" "modCount" "I" (.int mc)) (E_a : Exa Z h0 a "java/util/ArrayList") (g_a : n0 ≤ a) (old0 : Old Z n0 h0) (S0_DEFAULTCAPACITY_EMPTY_ELEMENTDATA : Sta Z Z.heap "java/util/ArrayList" "DEFAULTCAPACITY_EMPTY_ELEMENTDATA" "[Ljava/lang/Object;" (.ref d0)) (V0_d0 : Arv Z Z.heap d0 kd (.object "java/lang/Object") (0 : Int32) [] .null) :
    Ct l Z (⟨"java/util/ArrayList", "add", "(Ljava/lang/Object;)Z"⟩ : MethodName) jdk_38_method_25_code 2 (some .boolean) [] ({ frames := 4, cells := 1, slots := 10, locals := 56 } : Room) #[(.ref a), .null] h0 (Q_addfN Z a mc d0 kd h0 n0) := by
  refine own_body (plainFor_of_name pn_2) (fun m => ef_addfN m a) ?_
  intro p e s m below meth c T0 hx hby hml hZ hown hnm hret hlk X0 e0
  have N0 := Fr.nil n0
  refine g_aloadN X0 hx (hb hby d_jdk_38_m_25_0) rfl rfl rfl ?_
  refine g_dup X0 hx (hb hby d_jdk_38_m_25_1) rfl rfl ?_
  refine g_getF X0 hx hZ hown (host := "") (Or.inl (hw _ (List.mem_of_getElem? (i := 65) rfl))) (Via.of (hw _ (List.mem_of_getElem? (i := 66) rfl))) e0 F_modCount_a (hb hby d_jdk_38_m_25_2) rfl fun T1 X1 e1 => ?_
  refine g_iconst X1 hx (r := (1 : Int32)) (hb hby d_jdk_38_m_25_5) rfl rfl ?_
  refine g_iadd X1 hx (hb hby d_jdk_38_m_25_6) rfl rfl ?_
  refine g_putF X1 hx hZ hown (host := "") (Or.inl (hw _ (List.mem_of_getElem? (i := 65) rfl))) (Via.of (hw _ (List.mem_of_getElem? (i := 66) rfl))) e1 F_modCount_a E_a (Or.inl (hw _ (List.mem_of_getElem? (i := 30) rfl))) (hw _ (List.mem_of_getElem? (i := 11) rfl)) (ty := .int) (by decide) rfl rfl (hb hby d_jdk_38_m_25_7) rfl fun T2 h2 X2 e2 W2 F2 => ?_
  have kk2 : Keep h0 h2 [a] := (Keep.refl h0 [a]).wr W2 (Or.inl (by simp))
  have N2 := Fr.snoc X2 N0 g_a
  have Z2 : n0 ≤ h2.size := by rw [W2.size]; exact Z0
  refine g_aloadN X2 hx (hb hby d_jdk_38_m_25_10) rfl rfl rfl ?_
  refine g_aloadN X2 hx (hb hby d_jdk_38_m_25_11) rfl rfl rfl ?_
  refine g_aloadN X2 hx (hb hby d_jdk_38_m_25_12) rfl rfl rfl ?_
  have f4 : Fld Z h2 a "java/util/ArrayList" "elementData" "[Ljava/lang/Object;" (.ref d0) := (F_elementData_a.other W2 (Or.inr (slot_ne (Or.inl (hw _ (List.mem_of_getElem? (i := 33) rfl))) (Or.inl (hw _ (List.mem_of_getElem? (i := 30) rfl))) (by decide) (t := (.array (.object "java/lang/Object"))) (t' := .int) (by decide) (by decide))))
  refine g_getF X2 hx hZ hown (host := "") (Or.inl (hw _ (List.mem_of_getElem? (i := 32) rfl))) Via.refl e2 f4 (hb hby d_jdk_38_m_25_13) rfl fun T3 X3 e3 => ?_
  refine g_aloadN X3 hx (hb hby d_jdk_38_m_25_16) rfl rfl rfl ?_
  have f6 : Fld Z h2 a "java/util/ArrayList" "size" "I" (.int (0 : Int32)) := (F_size_a.other W2 (Or.inr (slot_ne (Or.inl (hw _ (List.mem_of_getElem? (i := 68) rfl))) (Or.inl (hw _ (List.mem_of_getElem? (i := 30) rfl))) (by decide) (t := .int) (t' := .int) (by decide) (by decide))))
  refine g_getF X3 hx hZ hown (host := "") (Or.inl (hw _ (List.mem_of_getElem? (i := 67) rfl))) Via.refl e3 f6 (hb hby d_jdk_38_m_25_17) rfl fun T5 X5 e5 => ?_
  have f8 : Exa Z h2 a "java/util/ArrayList" := (E_a.wr W2)
  have f9 : Old Z n0 h2 := (old0.wr W2 g_a)
  refine g_private X5 hx hZ hown (hw _ (List.mem_of_getElem? (i := 69) rfl)) (hw _ (List.mem_of_getElem? (i := 70) rfl)) (hw _ (List.mem_of_getElem? (i := 11) rfl)) (hw _ (List.mem_of_getElem? (i := 71) rfl)) (hw _ (List.mem_of_getElem? (i := 12) rfl)) (hw _ (List.mem_of_getElem? (i := 73) rfl)) (by decide) (a := a) f8 (rm_add3fN l Z a0 hw a (mc + (1 : Int32)) d0 kd h2 n0 Z2 f4 f6 F2 f8 g_a f9 S0_DEFAULTCAPACITY_EMPTY_ELEMENTDATA V0_d0) (by rw [hml]; rfl) e5 [.null, (.ref d0), (.int (0 : Int32))] rfl rfl (W := 0) (Nat.le_of_eq rfl) (by decide) (by decide) (by decide) (by decide) (lenOf pd_4 rfl) (hb hby d_jdk_38_m_25_20) rfl fun v7 T7 L7 X7 hQ7 => ?_
  obtain ⟨b_7, kb_7, rfl, Nq7, kc7, p7_0, p7_1, p7_2, p7_3, p7_4, p7_5, p7_6⟩ := hQ7
  have N7 := Fr.app N2 Nq7
  have ne_a_b_7 : a ≠ b_7 := own_neK f4.lt p7_0
  have g_b_7 : n0 ≤ b_7 := Nat.le_trans Z2 p7_0
  have sz_b_7 : h0.size ≤ b_7 := Nat.le_trans kk2.1 p7_0
  have kk7 : Keep h0 T7.heap [a] := kk2.trans kc7 (allS (Or.inl (by simp)) all0)
  have Z7 : n0 ≤ T7.heap.size := Nat.le_trans Z2 kc7.1
  have pv7_6 : Arv Z T7.heap b_7 kb_7 (.object "java/lang/Object") (10 : Int32) [.null, .null, .null, .null, .null, .null, .null, .null, .null, .null] .null := p7_6
  show Ga _ _ _ _ _ _ _ _ _ _ _ []
  refine g_iconst X7 hx (r := (1 : Int32)) (hb hby d_jdk_38_m_25_23) rfl rfl ?_
  exact g_retN X7 hx (t := .boolean) (r := (1 : Int32)) hret (by simp) hlk (hb hby d_jdk_38_m_25_24) rfl (by decide) (by decide) ⟨b_7, kb_7, rfl, N7, kk7, sz_b_7, p7_1, p7_2, p7_3, p7_4, p7_5, pv7_6⟩
def Q_add3N (Z : State) (a : Addr) (mc : Int32) (b : Addr) (kb : ClassId) (n : Int32) (vs : List Value) (h0 : Heap) (n0 : Nat) (v : Option Value) (h : Heap) (L : List Loc) : Prop := v = none ∧ Fr n0 L ∧ Keep h0 h [a, b] ∧ Exa Z h a "java/util/ArrayList" ∧ Fld Z h a "java/util/ArrayList" "elementData" "[Ljava/lang/Object;" (.ref b) ∧ Fld Z h a "java/util/ArrayList" "size" "I" (.int (n + (1 : Int32))) ∧ Fld Z h a "java/util/AbstractList" "modCount" "I" (.int mc) ∧ Arv Z h b kb (.object "java/lang/Object") (10 : Int32) (List.set vs (n).toNatClampNeg .null) .null
theorem ef_add3N (m : MethodId) (x0 : Addr) (x2 : Addr) (x3 : Int32) : entryFrame m #[(.ref x0), .null, (.ref x2), (.int x3)] 4 = mkF m 0 #[.val (.ref x0), .val .null, .val (.ref x2), .val (.int x3)] [] := by first | (simp [entryFrame, mkF, argsToLocals, Value.category]; done) | rfl
set_option maxRecDepth 65536 in
set_option maxHeartbeats 40000000 in
theorem rm_add3N (l : Launch) (Z : State) (a0 : Array Value) (hw : ∀ d ∈ tables_1, d.before a0 Z = true) (a : Addr) (mc : Int32) (b : Addr) (kb : ClassId) (n : Int32) (vs : List Value) (h0 : Heap) (n0 : Nat) (Z0 : n0 ≤ h0.size) (F_elementData_a : Fld Z h0 a "java/util/ArrayList" "elementData" "[Ljava/lang/Object;" (.ref b)) (F_size_a : Fld Z h0 a "java/util/ArrayList" "size" "I" (.int n)) (F_modCount_a : Fld Z h0 a "java/util/AbstractList" "modCount" "I" (.int mc)) (E_a : Exa Z h0 a "java/util/ArrayList") (g_a : n0 ≤ a) (g_b : n0 ≤ b) (ne_a_b : a ≠ b) (V_b : Arv Z h0 b kb (.object "java/lang/Object") (10 : Int32) vs .null) (O_kb : Ovr Z kb "java/lang/Object") (hn0 : ¬ n < (0 : Int32)) (hn1 : n < (10 : Int32)) (hle : vs.length = 10) :
    Ct l Z (⟨"java/util/ArrayList", "add", "(Ljava/lang/Object;[Ljava/lang/Object;I)V"⟩ : MethodName) jdk_38_method_24_code 4 none [] ({ frames := 0, cells := 0, slots := 0, locals := 0 } : Room) #[(.ref a), .null, (.ref b), (.int n)] h0 (Q_add3N Z a mc b kb n vs h0 n0) := by
  refine own_body (plainFor_of_name pn_2) (fun m => ef_add3N m a b n) ?_
  intro p e s m below meth c T0 hx hby hml hZ hown hnm hret hlk X0 e0
  have N0 := Fr.nil n0
  refine g_iloadN X0 hx (hb hby d_jdk_38_m_24_0) rfl rfl ?_
  refine g_aloadN X0 hx (hb hby d_jdk_38_m_24_1) rfl rfl rfl ?_
  refine g_len X0 hx hZ e0 V_b (hb hby d_jdk_38_m_24_2) rfl ?_
  have hc3 : ¬ n = (10 : Int32) := (fun q => absurd hn1 (by rw [q]; decide))
  refine g_icmpY X0 hx (q := 11) (hb hby d_jdk_38_m_24_3) (XT.ii_ne_t hc3) (by decide) (by decide) ?_
  refine g_aloadN X0 hx (hb hby d_jdk_38_m_24_11) rfl rfl rfl ?_
  refine g_iloadN X0 hx (hb hby d_jdk_38_m_24_12) rfl rfl ?_
  refine g_aloadN X0 hx (hb hby d_jdk_38_m_24_13) rfl rfl rfl ?_
  refine g_aastore X0 hx hZ e0 V_b rfl (x := .null) rfl (Or.inl rfl) ⟨hn0, hn1⟩ (by rw [hle]; exact own_nat hn0 hn1) (hb hby d_jdk_38_m_24_14) rfl fun T1 h1 X1 e1 W1 V1 => ?_
  have Vn1 : Arv Z h1 b kb (.object "java/lang/Object") (10 : Int32) (List.set vs (n).toNatClampNeg .null) .null := V1
  have kk1 : Keep h0 h1 [a, b] := (Keep.refl h0 [a, b]).wr W1 (Or.inl (by simp))
  have N1 := Fr.snoc X1 N0 g_b
  have Z1 : n0 ≤ h1.size := by rw [W1.size]; exact Z0
  refine g_aloadN X1 hx (hb hby d_jdk_38_m_24_15) rfl rfl rfl ?_
  refine g_iloadN X1 hx (hb hby d_jdk_38_m_24_16) rfl rfl ?_
  refine g_iconst X1 hx (r := (1 : Int32)) (hb hby d_jdk_38_m_24_17) rfl rfl ?_
  refine g_iadd X1 hx (hb hby d_jdk_38_m_24_18) rfl rfl ?_
  have f3 : Fld Z h1 a "java/util/ArrayList" "size" "I" (.int n) := (F_size_a.other W1 (Or.inl ne_a_b))
  have f4 : Exa Z h1 a "java/util/ArrayList" := (E_a.wr W1)
  refine g_putF X1 hx hZ hown (host := "") (Or.inl (hw _ (List.mem_of_getElem? (i := 67) rfl))) Via.refl e1 f3 f4 (Or.inl (hw _ (List.mem_of_getElem? (i := 68) rfl))) (hw _ (List.mem_of_getElem? (i := 11) rfl)) (ty := .int) (by decide) rfl rfl (hb hby d_jdk_38_m_24_19) rfl fun T2 h2 X2 e2 W2 F2 => ?_
  have kk2 : Keep h0 h2 [a, b] := kk1.wr W2 (Or.inl (by simp))
  have N2 := Fr.snoc X2 N1 g_a
  have Z2 : n0 ≤ h2.size := by rw [W2.size]; exact Z1
  have f5 : Exa Z h2 a "java/util/ArrayList" := (f4.wr W2)
  have f6 : Fld Z h2 a "java/util/ArrayList" "elementData" "[Ljava/lang/Object;" (.ref b) := ((F_elementData_a.other W1 (Or.inl ne_a_b)).other W2 (Or.inr (slot_ne (Or.inl (hw _ (List.mem_of_getElem? (i := 33) rfl))) (Or.inl (hw _ (List.mem_of_getElem? (i := 68) rfl))) (by decide) (t := (.array (.object "java/lang/Object"))) (t' := .int) (by decide) (by decide))))
  have f7 : Fld Z h2 a "java/util/AbstractList" "modCount" "I" (.int mc) := ((F_modCount_a.other W1 (Or.inl ne_a_b)).other W2 (Or.inr (slot_ne (Or.inl (hw _ (List.mem_of_getElem? (i := 30) rfl))) (Or.inl (hw _ (List.mem_of_getElem? (i := 68) rfl))) (by decide) (t := .int) (t' := .int) (by decide) (by decide))))
  have f8 : Arv Z h2 b kb (.object "java/lang/Object") (10 : Int32) (List.set vs (n).toNatClampNeg .null) .null := (Vn1.other W2 (Ne.symm ne_a_b))
  exact g_ret X2 hx hret hlk (hb hby d_jdk_38_m_24_22) (by decide) (by decide) (by rw [e2]; exact ⟨rfl, N2, kk2, f5, f6, F2, f7, f8⟩)
def Q_addnN (Z : State) (a : Addr) (mc : Int32) (b : Addr) (kb : ClassId) (n : Int32) (vs : List Value) (h0 : Heap) (n0 : Nat) (v : Option Value) (h : Heap) (L : List Loc) : Prop := v = some (.int (1 : Int32)) ∧ Fr n0 L ∧ Keep h0 h [a, b] ∧ Exa Z h a "java/util/ArrayList" ∧ Fld Z h a "java/util/ArrayList" "elementData" "[Ljava/lang/Object;" (.ref b) ∧ Fld Z h a "java/util/ArrayList" "size" "I" (.int (n + (1 : Int32))) ∧ Fld Z h a "java/util/AbstractList" "modCount" "I" (.int (mc + (1 : Int32))) ∧ Arv Z h b kb (.object "java/lang/Object") (10 : Int32) (List.set vs (n).toNatClampNeg .null) .null
theorem ef_addnN (m : MethodId) (x0 : Addr) : entryFrame m #[(.ref x0), .null] 2 = mkF m 0 #[.val (.ref x0), .val .null] [] := by first | (simp [entryFrame, mkF, argsToLocals, Value.category]; done) | rfl
set_option maxRecDepth 65536 in
set_option maxHeartbeats 40000000 in
theorem rm_addnN (l : Launch) (Z : State) (a0 : Array Value) (hw : ∀ d ∈ tables_1, d.before a0 Z = true) (a : Addr) (mc : Int32) (b : Addr) (kb : ClassId) (n : Int32) (vs : List Value) (h0 : Heap) (n0 : Nat) (Z0 : n0 ≤ h0.size) (F_elementData_a : Fld Z h0 a "java/util/ArrayList" "elementData" "[Ljava/lang/Object;" (.ref b)) (F_size_a : Fld Z h0 a "java/util/ArrayList" "size" "I" (.int n)) (F_modCount_a : Fld Z h0 a "java/util/AbstractList" "modCount" "I" (.int mc)) (E_a : Exa Z h0 a "java/util/ArrayList") (g_a : n0 ≤ a) (g_b : n0 ≤ b) (ne_a_b : a ≠ b) (V_b : Arv Z h0 b kb (.object "java/lang/Object") (10 : Int32) vs .null) (O_kb : Ovr Z kb "java/lang/Object") (hn0 : ¬ n < (0 : Int32)) (hn1 : n < (10 : Int32)) (hle : vs.length = 10) :
    Ct l Z (⟨"java/util/ArrayList", "add", "(Ljava/lang/Object;)Z"⟩ : MethodName) jdk_38_method_25_code 2 (some .boolean) [] ({ frames := 1, cells := 0, slots := 0, locals := 15 } : Room) #[(.ref a), .null] h0 (Q_addnN Z a mc b kb n vs h0 n0) := by
  refine own_body (plainFor_of_name pn_2) (fun m => ef_addnN m a) ?_
  intro p e s m below meth c T0 hx hby hml hZ hown hnm hret hlk X0 e0
  have N0 := Fr.nil n0
  refine g_aloadN X0 hx (hb hby d_jdk_38_m_25_0) rfl rfl rfl ?_
  refine g_dup X0 hx (hb hby d_jdk_38_m_25_1) rfl rfl ?_
  refine g_getF X0 hx hZ hown (host := "") (Or.inl (hw _ (List.mem_of_getElem? (i := 65) rfl))) (Via.of (hw _ (List.mem_of_getElem? (i := 66) rfl))) e0 F_modCount_a (hb hby d_jdk_38_m_25_2) rfl fun T1 X1 e1 => ?_
  refine g_iconst X1 hx (r := (1 : Int32)) (hb hby d_jdk_38_m_25_5) rfl rfl ?_
  refine g_iadd X1 hx (hb hby d_jdk_38_m_25_6) rfl rfl ?_
  refine g_putF X1 hx hZ hown (host := "") (Or.inl (hw _ (List.mem_of_getElem? (i := 65) rfl))) (Via.of (hw _ (List.mem_of_getElem? (i := 66) rfl))) e1 F_modCount_a E_a (Or.inl (hw _ (List.mem_of_getElem? (i := 30) rfl))) (hw _ (List.mem_of_getElem? (i := 11) rfl)) (ty := .int) (by decide) rfl rfl (hb hby d_jdk_38_m_25_7) rfl fun T2 h2 X2 e2 W2 F2 => ?_
  have kk2 : Keep h0 h2 [a, b] := (Keep.refl h0 [a, b]).wr W2 (Or.inl (by simp))
  have N2 := Fr.snoc X2 N0 g_a
  have Z2 : n0 ≤ h2.size := by rw [W2.size]; exact Z0
  refine g_aloadN X2 hx (hb hby d_jdk_38_m_25_10) rfl rfl rfl ?_
  refine g_aloadN X2 hx (hb hby d_jdk_38_m_25_11) rfl rfl rfl ?_
  refine g_aloadN X2 hx (hb hby d_jdk_38_m_25_12) rfl rfl rfl ?_
  have f4 : Fld Z h2 a "java/util/ArrayList" "elementData" "[Ljava/lang/Object;" (.ref b) := (F_elementData_a.other W2 (Or.inr (slot_ne (Or.inl (hw _ (List.mem_of_getElem? (i := 33) rfl))) (Or.inl (hw _ (List.mem_of_getElem? (i := 30) rfl))) (by decide) (t := (.array (.object "java/lang/Object"))) (t' := .int) (by decide) (by decide))))
  refine g_getF X2 hx hZ hown (host := "") (Or.inl (hw _ (List.mem_of_getElem? (i := 32) rfl))) Via.refl e2 f4 (hb hby d_jdk_38_m_25_13) rfl fun T3 X3 e3 => ?_
  refine g_aloadN X3 hx (hb hby d_jdk_38_m_25_16) rfl rfl rfl ?_
  have f6 : Fld Z h2 a "java/util/ArrayList" "size" "I" (.int n) := (F_size_a.other W2 (Or.inr (slot_ne (Or.inl (hw _ (List.mem_of_getElem? (i := 68) rfl))) (Or.inl (hw _ (List.mem_of_getElem? (i := 30) rfl))) (by decide) (t := .int) (t' := .int) (by decide) (by decide))))
  refine g_getF X3 hx hZ hown (host := "") (Or.inl (hw _ (List.mem_of_getElem? (i := 67) rfl))) Via.refl e3 f6 (hb hby d_jdk_38_m_25_17) rfl fun T5 X5 e5 => ?_
  have f8 : Exa Z h2 a "java/util/ArrayList" := (E_a.wr W2)
  have f9 : Arv Z h2 b kb (.object "java/lang/Object") (10 : Int32) vs .null := (V_b.other W2 (Ne.symm ne_a_b))
  refine g_private X5 hx hZ hown (hw _ (List.mem_of_getElem? (i := 69) rfl)) (hw _ (List.mem_of_getElem? (i := 70) rfl)) (hw _ (List.mem_of_getElem? (i := 11) rfl)) (hw _ (List.mem_of_getElem? (i := 71) rfl)) (hw _ (List.mem_of_getElem? (i := 12) rfl)) (hw _ (List.mem_of_getElem? (i := 73) rfl)) (by decide) (a := a) f8 (rm_add3N l Z a0 hw a (mc + (1 : Int32)) b kb n vs h2 n0 Z2 f4 f6 F2 f8 g_a g_b ne_a_b f9 O_kb hn0 hn1 hle) (by rw [hml]; rfl) e5 [.null, (.ref b), (.int n)] rfl rfl (W := 0) (Nat.le_of_eq rfl) (by decide) (by decide) (by decide) (by decide) (lenOf pd_4 rfl) (hb hby d_jdk_38_m_25_20) rfl fun v7 T7 L7 X7 hQ7 => ?_
  obtain ⟨rfl, Nq7, kc7, p7_0, p7_1, p7_2, p7_3, p7_4⟩ := hQ7
  have N7 := Fr.app N2 Nq7
  have kk7 : Keep h0 T7.heap [a, b] := kk2.trans kc7 (allS (Or.inl (by simp)) (allS (Or.inl (by simp)) all0))
  have Z7 : n0 ≤ T7.heap.size := Nat.le_trans Z2 kc7.1
  show Ga _ _ _ _ _ _ _ _ _ _ _ []
  refine g_iconst X7 hx (r := (1 : Int32)) (hb hby d_jdk_38_m_25_23) rfl rfl ?_
  exact g_retN X7 hx (t := .boolean) (r := (1 : Int32)) hret (by simp) hlk (hb hby d_jdk_38_m_25_24) rfl (by decide) (by decide) ⟨rfl, N7, kk7, p7_0, p7_1, p7_2, p7_3, p7_4⟩
def Q_pci (Z : State) (i : Int32) (n : Int32) (h0 : Heap) (n0 : Nat) (v : Option Value) (h : Heap) (L : List Loc) : Prop := v = some (.int i) ∧ Fr n0 L ∧ h = h0
theorem ef_pci (m : MethodId) (x0 : Int32) (x1 : Int32) : entryFrame m #[(.int x0), (.int x1), .null] 3 = mkF m 0 #[.val (.int x0), .val (.int x1), .val .null] [] := by first | (simp [entryFrame, mkF, argsToLocals, Value.category]; done) | rfl
set_option maxRecDepth 65536 in
set_option maxHeartbeats 40000000 in
theorem rm_pci (l : Launch) (Z : State) (a0 : Array Value) (hw : ∀ d ∈ tables_1, d.before a0 Z = true) (i : Int32) (n : Int32) (h0 : Heap) (n0 : Nat) (Z0 : n0 ≤ h0.size) (hi0 : ¬ i < (0 : Int32)) (hi1 : i < n) :
    Ct l Z (⟨"jdk/internal/util/Preconditions", "checkIndex", "(IILjava/util/function/BiFunction;)I"⟩ : MethodName) jdk_41_method_11_code 3 (some .int) [] ({ frames := 0, cells := 0, slots := 0, locals := 0 } : Room) #[(.int i), (.int n), .null] h0 (Q_pci Z i n h0 n0) := by
  refine own_body (plainFor_of_name pn_3) (fun m => ef_pci m i n) ?_
  intro p e s m below meth c T0 hx hby hml hZ hown hnm hret hlk X0 e0
  have N0 := Fr.nil n0
  refine g_iloadN X0 hx (hb hby d_jdk_41_m_11_0) rfl rfl ?_
  have hc1 : ¬ i < (0 : Int32) := hi0
  refine g_ifN X0 hx (hb hby d_jdk_41_m_11_1) rfl (XT.i0_lt_f hc1) ?_
  refine g_iloadN X0 hx (hb hby d_jdk_41_m_11_4) rfl rfl ?_
  refine g_iloadN X0 hx (hb hby d_jdk_41_m_11_5) rfl rfl ?_
  have hc6 : i < n := hi1
  refine g_icmpY X0 hx (q := 16) (hb hby d_jdk_41_m_11_6) (XT.ii_lt_t hc6) (by decide) (by decide) ?_
  refine g_iloadN X0 hx (hb hby d_jdk_41_m_11_16) rfl rfl ?_
  exact g_retI X0 hx hret hlk (hb hby d_jdk_41_m_11_17) (by decide) (by decide) (by rw [e0]; exact ⟨rfl, N0, rfl⟩)
def Q_oci (Z : State) (i : Int32) (n : Int32) (h0 : Heap) (n0 : Nat) (v : Option Value) (h : Heap) (L : List Loc) : Prop := v = some (.int i) ∧ Fr n0 L ∧ h = h0
theorem ef_oci (m : MethodId) (x0 : Int32) (x1 : Int32) : entryFrame m #[(.int x0), (.int x1)] 2 = mkF m 0 #[.val (.int x0), .val (.int x1)] [] := by first | (simp [entryFrame, mkF, argsToLocals, Value.category]; done) | rfl
set_option maxRecDepth 65536 in
set_option maxHeartbeats 40000000 in
theorem rm_oci (l : Launch) (Z : State) (a0 : Array Value) (hw : ∀ d ∈ tables_1, d.before a0 Z = true) (i : Int32) (n : Int32) (h0 : Heap) (n0 : Nat) (Z0 : n0 ≤ h0.size) (hi0 : ¬ i < (0 : Int32)) (hi1 : i < n) :
    Ct l Z (⟨"java/util/Objects", "checkIndex", "(II)I"⟩ : MethodName) jdk_31_method_17_code 2 (some .int) [] ({ frames := 1, cells := 0, slots := 0, locals := 14 } : Room) #[(.int i), (.int n)] h0 (Q_oci Z i n h0 n0) := by
  refine own_body (plainFor_of_name pn_4) (fun m => ef_oci m i n) ?_
  intro p e s m below meth c T0 hx hby hml hZ hown hnm hret hlk X0 e0
  have N0 := Fr.nil n0
  refine g_iloadN X0 hx (hb hby d_jdk_31_m_17_0) rfl rfl ?_
  refine g_iloadN X0 hx (hb hby d_jdk_31_m_17_1) rfl rfl ?_
  refine g_aconst_null X0 hx (hb hby d_jdk_31_m_17_2) rfl  ?_
  refine g_static X0 hx hZ hown (hw _ (List.mem_of_getElem? (i := 113) rfl)) (hw _ (List.mem_of_getElem? (i := 114) rfl)) (hw _ (List.mem_of_getElem? (i := 115) rfl)) (hw _ (List.mem_of_getElem? (i := 116) rfl)) (by decide) (rm_pci l Z a0 hw i n h0 n0 Z0 (by first | decide | assumption | rfl | (intro _; rfl)) (by first | decide | assumption | rfl | (intro _; rfl))) (by rw [hml]; rfl) e0 [(.int i), (.int n), .null] rfl rfl (W := 0) (Nat.le_of_eq rfl) (by decide) (by decide) (by decide) (by decide) (lenOf pd_5 rfl) (hb hby d_jdk_31_m_17_3) rfl fun v1 T1 L1 X1 hQ1 => ?_
  obtain ⟨rfl, Nq1, eh1⟩ := hQ1
  have N1 := Fr.app N0 Nq1
  show Ga _ _ _ _ _ _ _ _ _ _ _ [(.int i)]
  exact g_retI X1 hx hret hlk (hb hby d_jdk_31_m_17_6) (by decide) (by decide) (by rw [eh1]; exact ⟨rfl, N1, rfl⟩)
def Q_eldat (Z : State) (a : Addr) (b : Addr) (kb : ClassId) (n : Int32) (vs : List Value) (i : Int32) (r : Addr) (h0 : Heap) (n0 : Nat) (v : Option Value) (h : Heap) (L : List Loc) : Prop := v = some (.ref r) ∧ Fr n0 L ∧ h = h0
theorem ef_eldat (m : MethodId) (x0 : Addr) (x1 : Int32) : entryFrame m #[(.ref x0), (.int x1)] 2 = mkF m 0 #[.val (.ref x0), .val (.int x1)] [] := by first | (simp [entryFrame, mkF, argsToLocals, Value.category]; done) | rfl
set_option maxRecDepth 65536 in
set_option maxHeartbeats 40000000 in
theorem rm_eldat (l : Launch) (Z : State) (a0 : Array Value) (hw : ∀ d ∈ tables_1, d.before a0 Z = true) (a : Addr) (b : Addr) (kb : ClassId) (n : Int32) (vs : List Value) (i : Int32) (r : Addr) (h0 : Heap) (n0 : Nat) (Z0 : n0 ≤ h0.size) (F_size_a : Fld Z h0 a "java/util/ArrayList" "size" "I" (.int n)) (F_elementData_a : Fld Z h0 a "java/util/ArrayList" "elementData" "[Ljava/lang/Object;" (.ref b)) (V_b : Arv Z h0 b kb (.object "java/lang/Object") (10 : Int32) vs .null) (E_a : Exa Z h0 a "java/util/ArrayList") (hi0 : ¬ i < (0 : Int32)) (hi1 : i < n) (hi2 : i < (10 : Int32)) (hvr : vs.getD i.toNatClampNeg .null = .ref r) :
    Ct l Z (⟨"java/util/ArrayList", "elementData", "(I)Ljava/lang/Object;"⟩ : MethodName) jdk_38_method_18_code 2 (some (.object "java/lang/Object")) [] ({ frames := 0, cells := 0, slots := 0, locals := 0 } : Room) #[(.ref a), (.int i)] h0 (Q_eldat Z a b kb n vs i r h0 n0) := by
  refine own_body (plainFor_of_name pn_2) (fun m => ef_eldat m a i) ?_
  intro p e s m below meth c T0 hx hby hml hZ hown hnm hret hlk X0 e0
  have N0 := Fr.nil n0
  refine g_aloadN X0 hx (hb hby d_jdk_38_m_18_0) rfl rfl rfl ?_
  refine g_getF X0 hx hZ hown (host := "") (Or.inl (hw _ (List.mem_of_getElem? (i := 32) rfl))) Via.refl e0 F_elementData_a (hb hby d_jdk_38_m_18_1) rfl fun T1 X1 e1 => ?_
  refine g_iloadN X1 hx (hb hby d_jdk_38_m_18_4) rfl rfl ?_
  refine g_aaload X1 hx hZ e1 V_b rfl (v := (.ref r)) ⟨hi0, hi2⟩ hvr (hb hby d_jdk_38_m_18_5) rfl ?_
  exact g_retR X1 hx hret hlk rfl rfl rfl (hb hby d_jdk_38_m_18_6) (by decide) (by decide) (by rw [e1]; exact ⟨rfl, N0, rfl⟩)
def Q_alget (Z : State) (a : Addr) (b : Addr) (kb : ClassId) (n : Int32) (vs : List Value) (i : Int32) (r : Addr) (h0 : Heap) (n0 : Nat) (v : Option Value) (h : Heap) (L : List Loc) : Prop := v = some (.ref r) ∧ Fr n0 L ∧ h = h0
theorem ef_alget (m : MethodId) (x0 : Addr) (x1 : Int32) : entryFrame m #[(.ref x0), (.int x1)] 2 = mkF m 0 #[.val (.ref x0), .val (.int x1)] [] := by first | (simp [entryFrame, mkF, argsToLocals, Value.category]; done) | rfl
set_option maxRecDepth 65536 in
set_option maxHeartbeats 40000000 in
theorem rm_alget (l : Launch) (Z : State) (a0 : Array Value) (hw : ∀ d ∈ tables_1, d.before a0 Z = true) (a : Addr) (b : Addr) (kb : ClassId) (n : Int32) (vs : List Value) (i : Int32) (r : Addr) (h0 : Heap) (n0 : Nat) (Z0 : n0 ≤ h0.size) (F_size_a : Fld Z h0 a "java/util/ArrayList" "size" "I" (.int n)) (F_elementData_a : Fld Z h0 a "java/util/ArrayList" "elementData" "[Ljava/lang/Object;" (.ref b)) (V_b : Arv Z h0 b kb (.object "java/lang/Object") (10 : Int32) vs .null) (E_a : Exa Z h0 a "java/util/ArrayList") (hi0 : ¬ i < (0 : Int32)) (hi1 : i < n) (hi2 : i < (10 : Int32)) (hvr : vs.getD i.toNatClampNeg .null = .ref r) :
    Ct l Z (⟨"java/util/ArrayList", "get", "(I)Ljava/lang/Object;"⟩ : MethodName) jdk_38_method_20_code 2 (some (.object "java/lang/Object")) [] ({ frames := 2, cells := 0, slots := 0, locals := 27 } : Room) #[(.ref a), (.int i)] h0 (Q_alget Z a b kb n vs i r h0 n0) := by
  refine own_body (plainFor_of_name pn_2) (fun m => ef_alget m a i) ?_
  intro p e s m below meth c T0 hx hby hml hZ hown hnm hret hlk X0 e0
  have N0 := Fr.nil n0
  refine g_iloadN X0 hx (hb hby d_jdk_38_m_20_0) rfl rfl ?_
  refine g_aloadN X0 hx (hb hby d_jdk_38_m_20_1) rfl rfl rfl ?_
  refine g_getF X0 hx hZ hown (host := "") (Or.inl (hw _ (List.mem_of_getElem? (i := 67) rfl))) Via.refl e0 F_size_a (hb hby d_jdk_38_m_20_2) rfl fun T1 X1 e1 => ?_
  refine g_static X1 hx hZ hown (hw _ (List.mem_of_getElem? (i := 109) rfl)) (hw _ (List.mem_of_getElem? (i := 110) rfl)) (hw _ (List.mem_of_getElem? (i := 111) rfl)) (hw _ (List.mem_of_getElem? (i := 112) rfl)) (by decide) (rm_oci l Z a0 hw i n h0 n0 Z0 hi0 hi1) (by rw [hml]; rfl) e1 [(.int i), (.int n)] rfl rfl (W := 0) (Nat.le_of_eq rfl) (by decide) (by decide) (by decide) (by decide) (lenOf pd_1 rfl) (hb hby d_jdk_38_m_20_5) rfl fun v2 T2 L2 X2 hQ2 => ?_
  obtain ⟨rfl, Nq2, eh2⟩ := hQ2
  have N2 := Fr.app N0 Nq2
  show Ga _ _ _ _ _ _ _ _ _ _ _ [(.int i)]
  refine g_pop X2 hx (hb hby d_jdk_38_m_20_8) rfl rfl ?_
  refine g_aloadN X2 hx (hb hby d_jdk_38_m_20_9) rfl rfl rfl ?_
  refine g_iloadN X2 hx (hb hby d_jdk_38_m_20_10) rfl rfl ?_
  refine g_virtual X2 hx hZ hown (hw _ (List.mem_of_getElem? (i := 117) rfl)) (hw _ (List.mem_of_getElem? (i := 118) rfl)) (notFace_of_selects (args := #[]) (mvT hZ (hw _ (List.mem_of_getElem? (i := 120) rfl)))) (hw _ (List.mem_of_getElem? (i := 120) rfl)) (hw _ (List.mem_of_getElem? (i := 119) rfl)) (hw _ (List.mem_of_getElem? (i := 12) rfl)) (hw _ (List.mem_of_getElem? (i := 121) rfl)) (by decide) (a := a) E_a (rm_eldat l Z a0 hw a b kb n vs i r h0 n0 Z0 F_size_a F_elementData_a V_b E_a hi0 hi1 hi2 hvr) (by rw [hml]; rfl) eh2 [(.int i)] rfl rfl (W := 0) (Nat.le_of_eq rfl) (by decide) (by decide) (by decide) (by decide) (lenOf pd_6 rfl) (hb hby d_jdk_38_m_20_11) rfl fun v3 T3 L3 X3 hQ3 => ?_
  obtain ⟨rfl, Nq3, eh3⟩ := hQ3
  have N3 := Fr.app N2 Nq3
  show Ga _ _ _ _ _ _ _ _ _ _ _ [(.ref r)]
  exact g_retR X3 hx hret hlk rfl rfl rfl (hb hby d_jdk_38_m_20_14) (by decide) (by decide) (by rw [eh3]; exact ⟨rfl, N3, rfl⟩)
def Q_bini (Z : State) (a : Addr) (d0 : Addr) (h0 : Heap) (n0 : Nat) (v : Option Value) (h : Heap) (L : List Loc) : Prop := ∃ (kl : Addr) (wl : Addr), v = none ∧ Fr n0 L ∧ Keep h0 h [a] ∧ h0.size ≤ kl ∧ h0.size ≤ wl ∧ kl ≠ wl ∧ Exa Z h a "com/example/covering/covering/store/Batch" ∧ Fld Z h a "com/example/covering/covering/store/Batch" "keys" "Ljava/util/List;" (.ref kl) ∧ Fld Z h a "com/example/covering/covering/store/Batch" "values" "Ljava/util/List;" (.ref wl) ∧ Exa Z h kl "java/util/ArrayList" ∧ Exa Z h wl "java/util/ArrayList" ∧ Fld Z h kl "java/util/ArrayList" "elementData" "[Ljava/lang/Object;" (.ref d0) ∧ Fld Z h kl "java/util/ArrayList" "size" "I" (.int (0 : Int32)) ∧ Fld Z h kl "java/util/AbstractList" "modCount" "I" (.int (0 : Int32)) ∧ Fld Z h wl "java/util/ArrayList" "elementData" "[Ljava/lang/Object;" (.ref d0) ∧ Fld Z h wl "java/util/ArrayList" "size" "I" (.int (0 : Int32)) ∧ Fld Z h wl "java/util/AbstractList" "modCount" "I" (.int (0 : Int32))
theorem ef_bini (m : MethodId) (x0 : Addr) : entryFrame m #[(.ref x0)] 1 = mkF m 0 #[.val (.ref x0)] [] := by first | (simp [entryFrame, mkF, argsToLocals, Value.category]; done) | rfl
set_option maxRecDepth 65536 in
set_option maxHeartbeats 40000000 in
theorem rm_bini (l : Launch) (Z : State) (a0 : Array Value) (hw : ∀ d ∈ tables_1, d.before a0 Z = true) (a : Addr) (d0 : Addr) (h0 : Heap) (n0 : Nat) (Z0 : n0 ≤ h0.size) (F_keys_a : Fld Z h0 a "com/example/covering/covering/store/Batch" "keys" "Ljava/util/List;" .null) (F_values_a : Fld Z h0 a "com/example/covering/covering/store/Batch" "values" "Ljava/util/List;" .null) (E_a : Exa Z h0 a "com/example/covering/covering/store/Batch") (g_a : n0 ≤ a) (old0 : Old Z n0 h0) (S0_DEFAULTCAPACITY_EMPTY_ELEMENTDATA : Sta Z Z.heap "java/util/ArrayList" "DEFAULTCAPACITY_EMPTY_ELEMENTDATA" "[Ljava/lang/Object;" (.ref d0)) :
    Ct l Z (⟨"com/example/covering/covering/store/Batch", "<init>", "()V"⟩ : MethodName) prog_17_method_1_code 1 none [] ({ frames := 4, cells := 2, slots := 6, locals := 50 } : Room) #[(.ref a)] h0 (Q_bini Z a d0 h0 n0) := by
  refine own_body (plainFor_of_name pn_5) (fun m => ef_bini m a) ?_
  intro p e s m below meth c T0 hx hby hml hZ hown hnm hret hlk X0 e0
  have N0 := Fr.nil n0
  refine g_aloadN X0 hx (hb hby d_prog_17_m_1_0) rfl rfl rfl ?_
  refine g_initO X0 hx hZ hown (hw _ (List.mem_of_getElem? (i := 7) rfl)) (hw _ (List.mem_of_getElem? (i := 8) rfl)) (hw _ (List.mem_of_getElem? (i := 9) rfl)) e0 (by rw [hml]; rfl) (hb hby d_prog_17_m_1_1) rfl (by decide) (W := 0) (Nat.le_of_eq rfl) (by decide) fun T1 X1 e1 => ?_
  refine g_aloadN X1 hx (hb hby d_prog_17_m_1_4) rfl rfl rfl ?_
  refine g_new X1 hx hZ hown (hw _ (List.mem_of_getElem? (i := 10) rfl)) (hw _ (List.mem_of_getElem? (i := 11) rfl)) (hw _ (List.mem_of_getElem? (i := 12) rfl)) e1 (hb hby d_prog_17_m_1_5) rfl (by decide) (by decide) fun T2 h2 b2 X2 e2 q2 E2 A2 D2 => ?_
  have ne_a_b2 : a ≠ b2 := own_ne F_keys_a.lt q2
  have g_b2 : n0 ≤ b2 := Nat.le_trans Z0 (Nat.le_of_eq q2.symm)
  have sz_b2 : h0.size ≤ b2 := Nat.le_trans (Keep.refl h0 [a]).1 (Nat.le_of_eq q2.symm)
  have Z2 : n0 ≤ h2.size := Nat.le_trans Z0 E2.1
  have kk2 : Keep h0 h2 [a] := (Keep.refl h0 [a]).ext E2
  have F2_modCount : Fld Z h2 b2 "java/util/AbstractList" "modCount" "I" (.int (0 : Int32)) := D2 (Or.inl (hw _ (List.mem_of_getElem? (i := 30) rfl))) (ty := .int) (by decide)
  have F2_elementData : Fld Z h2 b2 "java/util/ArrayList" "elementData" "[Ljava/lang/Object;" .null := D2 (Or.inl (hw _ (List.mem_of_getElem? (i := 33) rfl))) (ty := (.array (.object "java/lang/Object"))) (by decide)
  have F2_size : Fld Z h2 b2 "java/util/ArrayList" "size" "I" (.int (0 : Int32)) := D2 (Or.inl (hw _ (List.mem_of_getElem? (i := 68) rfl))) (ty := .int) (by decide)
  refine g_dup X2 hx (hb hby d_prog_17_m_1_8) rfl rfl ?_
  have f4 : Old Z n0 h2 := (old0.ext E2)
  refine g_special X2 hx hZ hown rfl (hw _ (List.mem_of_getElem? (i := 13) rfl)) (hw _ (List.mem_of_getElem? (i := 14) rfl)) (hw _ (List.mem_of_getElem? (i := 12) rfl)) (hw _ (List.mem_of_getElem? (i := 15) rfl)) (by decide) (a := b2) (rm_alini l Z a0 hw b2 d0 h2 n0 Z2 F2_elementData F2_size F2_modCount A2 g_b2 f4 S0_DEFAULTCAPACITY_EMPTY_ELEMENTDATA) (by rw [hml]; rfl) e2 [] rfl rfl (W := 2) (Nat.le_of_eq rfl) (by decide) (by decide) (by decide) (by decide) (lenOf pd_0 rfl) (hb hby d_prog_17_m_1_9) rfl fun v3 T3 L3 X3 hQ3 => ?_
  obtain ⟨rfl, Nq3, kc3, p3_0, p3_1, p3_2, p3_3⟩ := hQ3
  have N3 := Fr.app N0 Nq3
  have kk3 : Keep h0 T3.heap [a] := kk2.trans kc3 (allS (Or.inr sz_b2) all0)
  have Z3 : n0 ≤ T3.heap.size := Nat.le_trans Z2 kc3.1
  show Ga _ _ _ _ _ _ _ _ _ _ _ [(.ref b2), (.ref a)]
  have f6 : Fld Z T3.heap a "com/example/covering/covering/store/Batch" "keys" "Ljava/util/List;" .null := ((F_keys_a.ext E2).keep kc3 (ninS ne_a_b2 nin0))
  have f7 : Exa Z T3.heap a "com/example/covering/covering/store/Batch" := ((E_a.ext E2).keep kc3)
  refine g_putF X3 hx hZ hown (host := "") (Or.inl (hw _ (List.mem_of_getElem? (i := 34) rfl))) Via.refl rfl f6 f7 (Or.inr ⟨(hw _ (List.mem_of_getElem? (i := 35) rfl)), rfl, hnm⟩) (hw _ (List.mem_of_getElem? (i := 2) rfl)) (ty := (.object "java/util/List")) (by decide) rfl rfl (hb hby d_prog_17_m_1_12) rfl fun T5 h5 X5 e5 W5 F5 => ?_
  have kk5 : Keep h0 h5 [a] := kk3.wr W5 (Or.inl (by simp))
  have N5 := Fr.snoc X5 N3 g_a
  have Z5 : n0 ≤ h5.size := by rw [W5.size]; exact Z3
  refine g_aloadN X5 hx (hb hby d_prog_17_m_1_15) rfl rfl rfl ?_
  have f9 : Exa Z h5 b2 "java/util/ArrayList" := (p3_0.wr W5)
  refine g_new X5 hx hZ hown (hw _ (List.mem_of_getElem? (i := 10) rfl)) (hw _ (List.mem_of_getElem? (i := 11) rfl)) (hw _ (List.mem_of_getElem? (i := 12) rfl)) e5 (hb hby d_prog_17_m_1_16) rfl (by decide) (by decide) fun T8 h8 b8 X8 e8 q8 E8 A8 D8 => ?_
  have ne_a_b8 : a ≠ b8 := own_ne F5.lt q8
  have ne_b2_b8 : b2 ≠ b8 := own_ne f9.lt q8
  have g_b8 : n0 ≤ b8 := Nat.le_trans Z5 (Nat.le_of_eq q8.symm)
  have sz_b8 : h0.size ≤ b8 := Nat.le_trans kk5.1 (Nat.le_of_eq q8.symm)
  have Z8 : n0 ≤ h8.size := Nat.le_trans Z5 E8.1
  have kk8 : Keep h0 h8 [a] := kk5.ext E8
  have F8_modCount : Fld Z h8 b8 "java/util/AbstractList" "modCount" "I" (.int (0 : Int32)) := D8 (Or.inl (hw _ (List.mem_of_getElem? (i := 30) rfl))) (ty := .int) (by decide)
  have F8_elementData : Fld Z h8 b8 "java/util/ArrayList" "elementData" "[Ljava/lang/Object;" .null := D8 (Or.inl (hw _ (List.mem_of_getElem? (i := 33) rfl))) (ty := (.array (.object "java/lang/Object"))) (by decide)
  have F8_size : Fld Z h8 b8 "java/util/ArrayList" "size" "I" (.int (0 : Int32)) := D8 (Or.inl (hw _ (List.mem_of_getElem? (i := 68) rfl))) (ty := .int) (by decide)
  refine g_dup X8 hx (hb hby d_prog_17_m_1_19) rfl rfl ?_
  have f11 : Old Z n0 h8 := (((f4.keep kc3 (allS g_b2 all0)).wr W5 g_a).ext E8)
  refine g_special X8 hx hZ hown rfl (hw _ (List.mem_of_getElem? (i := 13) rfl)) (hw _ (List.mem_of_getElem? (i := 14) rfl)) (hw _ (List.mem_of_getElem? (i := 12) rfl)) (hw _ (List.mem_of_getElem? (i := 15) rfl)) (by decide) (a := b8) (rm_alini l Z a0 hw b8 d0 h8 n0 Z8 F8_elementData F8_size F8_modCount A8 g_b8 f11 S0_DEFAULTCAPACITY_EMPTY_ELEMENTDATA) (by rw [hml]; rfl) e8 [] rfl rfl (W := 2) (Nat.le_of_eq rfl) (by decide) (by decide) (by decide) (by decide) (lenOf pd_0 rfl) (hb hby d_prog_17_m_1_20) rfl fun v10 T10 L10 X10 hQ10 => ?_
  obtain ⟨rfl, Nq10, kc10, p10_0, p10_1, p10_2, p10_3⟩ := hQ10
  have N10 := Fr.app N5 Nq10
  have kk10 : Keep h0 T10.heap [a] := kk8.trans kc10 (allS (Or.inr sz_b8) all0)
  have Z10 : n0 ≤ T10.heap.size := Nat.le_trans Z8 kc10.1
  show Ga _ _ _ _ _ _ _ _ _ _ _ [(.ref b8), (.ref a)]
  have f13 : Fld Z T10.heap a "com/example/covering/covering/store/Batch" "values" "Ljava/util/List;" .null := (((((F_values_a.ext E2).keep kc3 (ninS ne_a_b2 nin0)).other W5 (Or.inr (slot_ne (Or.inr (hw _ (List.mem_of_getElem? (i := 37) rfl))) (Or.inr (hw _ (List.mem_of_getElem? (i := 35) rfl))) (by decide) (t := (.object "java/util/List")) (t' := (.object "java/util/List")) (by decide) (by decide)))).ext E8).keep kc10 (ninS ne_a_b8 nin0))
  have f14 : Exa Z T10.heap a "com/example/covering/covering/store/Batch" := (((f7.wr W5).ext E8).keep kc10)
  refine g_putF X10 hx hZ hown (host := "") (Or.inl (hw _ (List.mem_of_getElem? (i := 36) rfl))) Via.refl rfl f13 f14 (Or.inr ⟨(hw _ (List.mem_of_getElem? (i := 37) rfl)), rfl, hnm⟩) (hw _ (List.mem_of_getElem? (i := 2) rfl)) (ty := (.object "java/util/List")) (by decide) rfl rfl (hb hby d_prog_17_m_1_23) rfl fun T12 h12 X12 e12 W12 F12 => ?_
  have kk12 : Keep h0 h12 [a] := kk10.wr W12 (Or.inl (by simp))
  have N12 := Fr.snoc X12 N10 g_a
  have Z12 : n0 ≤ h12.size := by rw [W12.size]; exact Z10
  have f15 : Exa Z h12 a "com/example/covering/covering/store/Batch" := (f14.wr W12)
  have f16 : Fld Z h12 a "com/example/covering/covering/store/Batch" "keys" "Ljava/util/List;" (.ref b2) := (((F5.ext E8).keep kc10 (ninS ne_a_b8 nin0)).other W12 (Or.inr (slot_ne (Or.inr (hw _ (List.mem_of_getElem? (i := 35) rfl))) (Or.inr (hw _ (List.mem_of_getElem? (i := 37) rfl))) (by decide) (t := (.object "java/util/List")) (t' := (.object "java/util/List")) (by decide) (by decide))))
  have f17 : Exa Z h12 b2 "java/util/ArrayList" := (((f9.ext E8).keep kc10).wr W12)
  have f18 : Exa Z h12 b8 "java/util/ArrayList" := (p10_0.wr W12)
  have f19 : Fld Z h12 b2 "java/util/ArrayList" "elementData" "[Ljava/lang/Object;" (.ref d0) := ((((p3_1.other W5 (Or.inl (Ne.symm ne_a_b2))).ext E8).keep kc10 (ninS ne_b2_b8 nin0)).other W12 (Or.inl (Ne.symm ne_a_b2)))
  have f20 : Fld Z h12 b2 "java/util/ArrayList" "size" "I" (.int (0 : Int32)) := ((((p3_2.other W5 (Or.inl (Ne.symm ne_a_b2))).ext E8).keep kc10 (ninS ne_b2_b8 nin0)).other W12 (Or.inl (Ne.symm ne_a_b2)))
  have f21 : Fld Z h12 b2 "java/util/AbstractList" "modCount" "I" (.int (0 : Int32)) := ((((p3_3.other W5 (Or.inl (Ne.symm ne_a_b2))).ext E8).keep kc10 (ninS ne_b2_b8 nin0)).other W12 (Or.inl (Ne.symm ne_a_b2)))
  have f22 : Fld Z h12 b8 "java/util/ArrayList" "elementData" "[Ljava/lang/Object;" (.ref d0) := (p10_1.other W12 (Or.inl (Ne.symm ne_a_b8)))
  have f23 : Fld Z h12 b8 "java/util/ArrayList" "size" "I" (.int (0 : Int32)) := (p10_2.other W12 (Or.inl (Ne.symm ne_a_b8)))
  have f24 : Fld Z h12 b8 "java/util/AbstractList" "modCount" "I" (.int (0 : Int32)) := (p10_3.other W12 (Or.inl (Ne.symm ne_a_b8)))
  exact g_ret X12 hx hret hlk (hb hby d_prog_17_m_1_26) (by decide) (by decide) (by rw [e12]; exact ⟨b2, b8, rfl, N12, kk12, sz_b2, sz_b8, ne_b2_b8, f15, f16, F12, f17, f18, f19, f20, f21, f22, f23, f24⟩)
def Q_deleteF (Z : State) (a : Addr) (kx : Addr) (kk : ClassId) (zk : Int32) (ks : List Value) (kl : Addr) (wl : Addr) (mk : Int32) (mw : Int32) (d0 : Addr) (kd : ClassId) (h0 : Heap) (n0 : Nat) (v : Option Value) (h : Heap) (L : List Loc) : Prop := ∃ (cc1 : Addr) (ar1 : Addr) (kr1 : ClassId) (ar2 : Addr) (kr2 : ClassId), v = some (.ref a) ∧ Fr n0 L ∧ Keep h0 h [kl, wl] ∧ h0.size ≤ cc1 ∧ h0.size ≤ ar1 ∧ h0.size ≤ ar2 ∧ cc1 ≠ ar1 ∧ cc1 ≠ ar2 ∧ ar1 ≠ ar2 ∧ Exa Z h kl "java/util/ArrayList" ∧ Exa Z h wl "java/util/ArrayList" ∧ Exa Z h cc1 "[B" ∧ Arv Z h cc1 kk .byte zk ks (.int (0 : Int32)) ∧ Fld Z h kl "java/util/ArrayList" "elementData" "[Ljava/lang/Object;" (.ref ar1) ∧ Fld Z h kl "java/util/ArrayList" "size" "I" (.int (1 : Int32)) ∧ Fld Z h kl "java/util/AbstractList" "modCount" "I" (.int (mk + (1 : Int32))) ∧ Fld Z h wl "java/util/ArrayList" "elementData" "[Ljava/lang/Object;" (.ref ar2) ∧ Fld Z h wl "java/util/ArrayList" "size" "I" (.int (1 : Int32)) ∧ Fld Z h wl "java/util/AbstractList" "modCount" "I" (.int (mw + (1 : Int32))) ∧ Ovr Z kr1 "java/lang/Object" ∧ Ovr Z kr2 "java/lang/Object" ∧ Arv Z h ar1 kr1 (.object "java/lang/Object") (10 : Int32) [(.ref cc1), .null, .null, .null, .null, .null, .null, .null, .null, .null] .null ∧ Arv Z h ar2 kr2 (.object "java/lang/Object") (10 : Int32) [.null, .null, .null, .null, .null, .null, .null, .null, .null, .null] .null
theorem ef_deleteF (m : MethodId) (x0 : Addr) (x1 : Addr) : entryFrame m #[(.ref x0), (.ref x1)] 2 = mkF m 0 #[.val (.ref x0), .val (.ref x1)] [] := by first | (simp [entryFrame, mkF, argsToLocals, Value.category]; done) | rfl
set_option maxRecDepth 65536 in
set_option maxHeartbeats 40000000 in
theorem rm_deleteF (l : Launch) (Z : State) (a0 : Array Value) (hw : ∀ d ∈ tables_1, d.before a0 Z = true) (a : Addr) (kx : Addr) (kk : ClassId) (zk : Int32) (ks : List Value) (kl : Addr) (wl : Addr) (mk : Int32) (mw : Int32) (d0 : Addr) (kd : ClassId) (h0 : Heap) (n0 : Nat) (Z0 : n0 ≤ h0.size) (F_keys_a : Fld Z h0 a "com/example/covering/covering/store/Batch" "keys" "Ljava/util/List;" (.ref kl)) (F_values_a : Fld Z h0 a "com/example/covering/covering/store/Batch" "values" "Ljava/util/List;" (.ref wl)) (E_a : Exa Z h0 a "com/example/covering/covering/store/Batch") (E_kl : Exa Z h0 kl "java/util/ArrayList") (E_wl : Exa Z h0 wl "java/util/ArrayList") (g_kl : n0 ≤ kl) (g_wl : n0 ≤ wl) (ne_kl_wl : kl ≠ wl) (ne_a_kl : a ≠ kl) (ne_a_wl : a ≠ wl) (E_kx : Exa Z h0 kx "[B") (V_kx : Arv Z h0 kx kk .byte zk ks (.int (0 : Int32))) (hzk : zk.toNatClampNeg ≤ 2) (F_elementData_kl : Fld Z h0 kl "java/util/ArrayList" "elementData" "[Ljava/lang/Object;" (.ref d0)) (F_size_kl : Fld Z h0 kl "java/util/ArrayList" "size" "I" (.int (0 : Int32))) (F_modCount_kl : Fld Z h0 kl "java/util/AbstractList" "modCount" "I" (.int mk)) (F_elementData_wl : Fld Z h0 wl "java/util/ArrayList" "elementData" "[Ljava/lang/Object;" (.ref d0)) (F_size_wl : Fld Z h0 wl "java/util/ArrayList" "size" "I" (.int (0 : Int32))) (F_modCount_wl : Fld Z h0 wl "java/util/AbstractList" "modCount" "I" (.int mw)) (old0 : Old Z n0 h0) (S0_DEFAULTCAPACITY_EMPTY_ELEMENTDATA : Sta Z Z.heap "java/util/ArrayList" "DEFAULTCAPACITY_EMPTY_ELEMENTDATA" "[Ljava/lang/Object;" (.ref d0)) (V0_d0 : Arv Z Z.heap d0 kd (.object "java/lang/Object") (0 : Int32) [] .null) :
    Ct l Z (⟨"com/example/covering/covering/store/Batch", "delete", "([B)Lcom/example/covering/covering/store/Batch;"⟩ : MethodName) prog_17_method_3_code 2 (some (.object "com/example/covering/covering/store/Batch")) [] ({ frames := 5, cells := 3, slots := 22, locals := 69 } : Room) #[(.ref a), (.ref kx)] h0 (Q_deleteF Z a kx kk zk ks kl wl mk mw d0 kd h0 n0) := by
  refine own_body (plainFor_of_name pn_5) (fun m => ef_deleteF m a kx) ?_
  intro p e s m below meth c T0 hx hby hml hZ hown hnm hret hlk X0 e0
  have N0 := Fr.nil n0
  refine g_aloadN X0 hx (hb hby d_prog_17_m_3_0) rfl rfl rfl ?_
  refine g_getF X0 hx hZ hown (host := "") (Or.inl (hw _ (List.mem_of_getElem? (i := 34) rfl))) Via.refl e0 F_keys_a (hb hby d_prog_17_m_3_1) rfl fun T1 X1 e1 => ?_
  refine g_aloadN X1 hx (hb hby d_prog_17_m_3_4) rfl rfl rfl ?_
  refine g_clone X1 hx hZ hown (hw _ (List.mem_of_getElem? (i := 47) rfl)) (hw _ (List.mem_of_getElem? (i := 48) rfl)) (hw _ (List.mem_of_getElem? (i := 52) rfl)) (hw _ (List.mem_of_getElem? (i := 50) rfl)) (hw _ (List.mem_of_getElem? (i := 51) rfl)) (hw _ (List.mem_of_getElem? (i := 53) rfl)) e1 V_kx E_kx (by rw [hml]; rfl) (hb hby d_prog_17_m_3_5) rfl (by decide) (W := 1) (Nat.le_of_eq rfl) (by decide) 2 hzk (by decide) (by decide) fun T2 h2 b2 X2 e2 q2 E2 A2 V2 => ?_
  have ne_a_b2 : a ≠ b2 := own_ne F_keys_a.lt q2
  have ne_kl_b2 : kl ≠ b2 := own_ne E_kl.lt q2
  have ne_kx_b2 : kx ≠ b2 := own_ne E_kx.lt q2
  have ne_wl_b2 : wl ≠ b2 := own_ne E_wl.lt q2
  have g_b2 : n0 ≤ b2 := Nat.le_trans Z0 (Nat.le_of_eq q2.symm)
  have sz_b2 : h0.size ≤ b2 := Nat.le_trans (Keep.refl h0 [kl, wl]).1 (Nat.le_of_eq q2.symm)
  have Z2 : n0 ≤ h2.size := Nat.le_trans Z0 E2.1
  have kk2 : Keep h0 h2 [kl, wl] := (Keep.refl h0 [kl, wl]).ext E2
  refine g_cast X2 hx hZ hown (hw _ (List.mem_of_getElem? (i := 54) rfl)) e2 (Ins.self A2) (hb hby d_prog_17_m_3_8) rfl fun T3 X3 e3 => ?_
  have f5 : Fld Z h2 kl "java/util/ArrayList" "elementData" "[Ljava/lang/Object;" (.ref d0) := (F_elementData_kl.ext E2)
  have f6 : Fld Z h2 kl "java/util/ArrayList" "size" "I" (.int (0 : Int32)) := (F_size_kl.ext E2)
  have f7 : Fld Z h2 kl "java/util/AbstractList" "modCount" "I" (.int mk) := (F_modCount_kl.ext E2)
  have f8 : Exa Z h2 kl "java/util/ArrayList" := (E_kl.ext E2)
  have f9 : Old Z n0 h2 := (old0.ext E2)
  refine g_interface X3 hx hZ hown (hw _ (List.mem_of_getElem? (i := 56) rfl)) (hw _ (List.mem_of_getElem? (i := 57) rfl)) (hw _ (List.mem_of_getElem? (i := 58) rfl)) (hw _ (List.mem_of_getElem? (i := 59) rfl)) (hw _ (List.mem_of_getElem? (i := 60) rfl)) (hw _ (List.mem_of_getElem? (i := 61) rfl)) (hw _ (List.mem_of_getElem? (i := 62) rfl)) (hw _ (List.mem_of_getElem? (i := 63) rfl)) (hw _ (List.mem_of_getElem? (i := 12) rfl)) (hw _ (List.mem_of_getElem? (i := 64) rfl)) (by decide) (a := kl) f8 (rm_addf l Z a0 hw kl mk d0 kd b2 h2 n0 Z2 f5 f6 f7 f8 g_kl f9 S0_DEFAULTCAPACITY_EMPTY_ELEMENTDATA V0_d0 (Ins.of_exa A2 (hw _ (List.mem_of_getElem? (i := 90) rfl)))) (by rw [hml]; rfl) e3 [(.ref b2)] rfl rfl (W := 0) (Nat.le_of_eq rfl) (by decide) (by decide) (by decide) (by decide) (lenOf pd_7 rfl) (hb hby d_prog_17_m_3_11) rfl fun v4 T4 L4 X4 hQ4 => ?_
  obtain ⟨b_4, kb_4, rfl, Nq4, kc4, p4_0, p4_1, p4_2, p4_3, p4_4, p4_5, p4_6⟩ := hQ4
  have N4 := Fr.app N0 Nq4
  have f10 : Fld Z h2 a "com/example/covering/covering/store/Batch" "keys" "Ljava/util/List;" (.ref kl) := (F_keys_a.ext E2)
  have f11 : Exa Z h2 kx "[B" := (E_kx.ext E2)
  have f12 : Exa Z h2 wl "java/util/ArrayList" := (E_wl.ext E2)
  have ne_a_b_4 : a ≠ b_4 := own_neK f10.lt p4_0
  have ne_b2_b_4 : b2 ≠ b_4 := own_neK A2.lt p4_0
  have ne_kl_b_4 : kl ≠ b_4 := own_neK f8.lt p4_0
  have ne_kx_b_4 : kx ≠ b_4 := own_neK f11.lt p4_0
  have ne_wl_b_4 : wl ≠ b_4 := own_neK f12.lt p4_0
  have g_b_4 : n0 ≤ b_4 := Nat.le_trans Z2 p4_0
  have sz_b_4 : h0.size ≤ b_4 := Nat.le_trans kk2.1 p4_0
  have kk4 : Keep h0 T4.heap [kl, wl] := kk2.trans kc4 (allS (Or.inl (by simp)) all0)
  have Z4 : n0 ≤ T4.heap.size := Nat.le_trans Z2 kc4.1
  have pv4_6 : Arv Z T4.heap b_4 kb_4 (.object "java/lang/Object") (10 : Int32) [(.ref b2), .null, .null, .null, .null, .null, .null, .null, .null, .null] .null := p4_6
  show Ga _ _ _ _ _ _ _ _ _ _ _ [(.int (1 : Int32))]
  refine g_pop X4 hx (hb hby d_prog_17_m_3_16) rfl rfl ?_
  refine g_aloadN X4 hx (hb hby d_prog_17_m_3_17) rfl rfl rfl ?_
  have f14 : Fld Z T4.heap a "com/example/covering/covering/store/Batch" "values" "Ljava/util/List;" (.ref wl) := ((F_values_a.ext E2).keep kc4 (ninS ne_a_kl nin0))
  refine g_getF X4 hx hZ hown (host := "") (Or.inl (hw _ (List.mem_of_getElem? (i := 36) rfl))) Via.refl rfl f14 (hb hby d_prog_17_m_3_18) rfl fun T13 X13 e13 => ?_
  refine g_aconst_null X13 hx (hb hby d_prog_17_m_3_21) rfl  ?_
  have f16 : Fld Z T4.heap wl "java/util/ArrayList" "elementData" "[Ljava/lang/Object;" (.ref d0) := ((F_elementData_wl.ext E2).keep kc4 (ninS (Ne.symm ne_kl_wl) nin0))
  have f17 : Fld Z T4.heap wl "java/util/ArrayList" "size" "I" (.int (0 : Int32)) := ((F_size_wl.ext E2).keep kc4 (ninS (Ne.symm ne_kl_wl) nin0))
  have f18 : Fld Z T4.heap wl "java/util/AbstractList" "modCount" "I" (.int mw) := ((F_modCount_wl.ext E2).keep kc4 (ninS (Ne.symm ne_kl_wl) nin0))
  have f19 : Exa Z T4.heap wl "java/util/ArrayList" := (f12.keep kc4)
  have f20 : Old Z n0 T4.heap := (f9.keep kc4 (allS g_kl all0))
  refine g_interface X13 hx hZ hown (hw _ (List.mem_of_getElem? (i := 56) rfl)) (hw _ (List.mem_of_getElem? (i := 57) rfl)) (hw _ (List.mem_of_getElem? (i := 58) rfl)) (hw _ (List.mem_of_getElem? (i := 59) rfl)) (hw _ (List.mem_of_getElem? (i := 60) rfl)) (hw _ (List.mem_of_getElem? (i := 61) rfl)) (hw _ (List.mem_of_getElem? (i := 62) rfl)) (hw _ (List.mem_of_getElem? (i := 63) rfl)) (hw _ (List.mem_of_getElem? (i := 12) rfl)) (hw _ (List.mem_of_getElem? (i := 64) rfl)) (by decide) (a := wl) f19 (rm_addfN l Z a0 hw wl mw d0 kd T4.heap n0 Z4 f16 f17 f18 f19 g_wl f20 S0_DEFAULTCAPACITY_EMPTY_ELEMENTDATA V0_d0) (by rw [hml]; rfl) e13 [.null] rfl rfl (W := 0) (Nat.le_of_eq rfl) (by decide) (by decide) (by decide) (by decide) (lenOf pd_7 rfl) (hb hby d_prog_17_m_3_22) rfl fun v15 T15 L15 X15 hQ15 => ?_
  obtain ⟨b_15, kb_15, rfl, Nq15, kc15, p15_0, p15_1, p15_2, p15_3, p15_4, p15_5, p15_6⟩ := hQ15
  have N15 := Fr.app N4 Nq15
  have f21 : Fld Z T4.heap a "com/example/covering/covering/store/Batch" "keys" "Ljava/util/List;" (.ref kl) := (f10.keep kc4 (ninS ne_a_kl nin0))
  have f22 : Exa Z T4.heap b2 "[B" := (A2.keep kc4)
  have f23 : Exa Z T4.heap kx "[B" := (f11.keep kc4)
  have ne_a_b_15 : a ≠ b_15 := own_neK f21.lt p15_0
  have ne_b2_b_15 : b2 ≠ b_15 := own_neK f22.lt p15_0
  have ne_b_4_b_15 : b_4 ≠ b_15 := own_neK pv4_6.lt p15_0
  have ne_kl_b_15 : kl ≠ b_15 := own_neK p4_1.lt p15_0
  have ne_kx_b_15 : kx ≠ b_15 := own_neK f23.lt p15_0
  have ne_wl_b_15 : wl ≠ b_15 := own_neK f19.lt p15_0
  have g_b_15 : n0 ≤ b_15 := Nat.le_trans Z4 p15_0
  have sz_b_15 : h0.size ≤ b_15 := Nat.le_trans kk4.1 p15_0
  have kk15 : Keep h0 T15.heap [kl, wl] := kk4.trans kc15 (allS (Or.inl (by simp)) all0)
  have Z15 : n0 ≤ T15.heap.size := Nat.le_trans Z4 kc15.1
  have pv15_6 : Arv Z T15.heap b_15 kb_15 (.object "java/lang/Object") (10 : Int32) [.null, .null, .null, .null, .null, .null, .null, .null, .null, .null] .null := p15_6
  show Ga _ _ _ _ _ _ _ _ _ _ _ [(.int (1 : Int32))]
  refine g_pop X15 hx (hb hby d_prog_17_m_3_27) rfl rfl ?_
  refine g_aloadN X15 hx (hb hby d_prog_17_m_3_28) rfl rfl rfl ?_
  have f24 : Exa Z T15.heap kl "java/util/ArrayList" := (p4_1.keep kc15)
  have f25 : Exa Z T15.heap b2 "[B" := (f22.keep kc15)
  have f26 : Arv Z T15.heap b2 kk .byte zk ks (.int (0 : Int32)) := ((V2.keep kc4 (ninS (Ne.symm ne_kl_b2) nin0)).keep kc15 (ninS (Ne.symm ne_wl_b2) nin0))
  have f27 : Fld Z T15.heap kl "java/util/ArrayList" "elementData" "[Ljava/lang/Object;" (.ref b_4) := (p4_2.keep kc15 (ninS ne_kl_wl nin0))
  have f28 : Fld Z T15.heap kl "java/util/ArrayList" "size" "I" (.int (1 : Int32)) := (p4_3.keep kc15 (ninS ne_kl_wl nin0))
  have f29 : Fld Z T15.heap kl "java/util/AbstractList" "modCount" "I" (.int (mk + (1 : Int32))) := (p4_4.keep kc15 (ninS ne_kl_wl nin0))
  have f30 : Arv Z T15.heap b_4 kb_4 (.object "java/lang/Object") (10 : Int32) [(.ref b2), .null, .null, .null, .null, .null, .null, .null, .null, .null] .null := (pv4_6.keep kc15 (ninS (Ne.symm ne_wl_b_4) nin0))
  exact g_retR X15 hx hret hlk rfl rfl rfl (hb hby d_prog_17_m_3_29) (by decide) (by decide) ⟨b2, b_4, kb_4, b_15, kb_15, rfl, N15, kk15, sz_b2, sz_b_4, sz_b_15, ne_b2_b_4, ne_b2_b_15, ne_b_4_b_15, f24, p15_1, f25, f26, f27, f28, f29, p15_2, p15_3, p15_4, p4_5, p15_5, f30, pv15_6⟩
def Q_deleteN (Z : State) (a : Addr) (kx : Addr) (kk : ClassId) (zk : Int32) (ks : List Value) (kl : Addr) (wl : Addr) (mk : Int32) (mw : Int32) (ar1 : Addr) (kr1 : ClassId) (ar2 : Addr) (kr2 : ClassId) (n : Int32) (vs : List Value) (wvs : List Value) (h0 : Heap) (n0 : Nat) (v : Option Value) (h : Heap) (L : List Loc) : Prop := ∃ (cc1 : Addr), v = some (.ref a) ∧ Fr n0 L ∧ Keep h0 h [kl, wl, ar1, ar2] ∧ h0.size ≤ cc1 ∧ Exa Z h kl "java/util/ArrayList" ∧ Exa Z h wl "java/util/ArrayList" ∧ Exa Z h cc1 "[B" ∧ Arv Z h cc1 kk .byte zk ks (.int (0 : Int32)) ∧ Fld Z h kl "java/util/ArrayList" "elementData" "[Ljava/lang/Object;" (.ref ar1) ∧ Fld Z h kl "java/util/ArrayList" "size" "I" (.int (n + (1 : Int32))) ∧ Fld Z h kl "java/util/AbstractList" "modCount" "I" (.int (mk + (1 : Int32))) ∧ Fld Z h wl "java/util/ArrayList" "elementData" "[Ljava/lang/Object;" (.ref ar2) ∧ Fld Z h wl "java/util/ArrayList" "size" "I" (.int (n + (1 : Int32))) ∧ Fld Z h wl "java/util/AbstractList" "modCount" "I" (.int (mw + (1 : Int32))) ∧ Arv Z h ar1 kr1 (.object "java/lang/Object") (10 : Int32) (List.set vs (n).toNatClampNeg (.ref cc1)) .null ∧ Arv Z h ar2 kr2 (.object "java/lang/Object") (10 : Int32) (List.set wvs (n).toNatClampNeg .null) .null
theorem ef_deleteN (m : MethodId) (x0 : Addr) (x1 : Addr) : entryFrame m #[(.ref x0), (.ref x1)] 2 = mkF m 0 #[.val (.ref x0), .val (.ref x1)] [] := by first | (simp [entryFrame, mkF, argsToLocals, Value.category]; done) | rfl
set_option maxRecDepth 65536 in
set_option maxHeartbeats 40000000 in
theorem rm_deleteN (l : Launch) (Z : State) (a0 : Array Value) (hw : ∀ d ∈ tables_1, d.before a0 Z = true) (a : Addr) (kx : Addr) (kk : ClassId) (zk : Int32) (ks : List Value) (kl : Addr) (wl : Addr) (mk : Int32) (mw : Int32) (ar1 : Addr) (kr1 : ClassId) (ar2 : Addr) (kr2 : ClassId) (n : Int32) (vs : List Value) (wvs : List Value) (h0 : Heap) (n0 : Nat) (Z0 : n0 ≤ h0.size) (F_keys_a : Fld Z h0 a "com/example/covering/covering/store/Batch" "keys" "Ljava/util/List;" (.ref kl)) (F_values_a : Fld Z h0 a "com/example/covering/covering/store/Batch" "values" "Ljava/util/List;" (.ref wl)) (E_a : Exa Z h0 a "com/example/covering/covering/store/Batch") (E_kl : Exa Z h0 kl "java/util/ArrayList") (E_wl : Exa Z h0 wl "java/util/ArrayList") (g_kl : n0 ≤ kl) (g_wl : n0 ≤ wl) (ne_kl_wl : kl ≠ wl) (ne_a_kl : a ≠ kl) (ne_a_wl : a ≠ wl) (E_kx : Exa Z h0 kx "[B") (V_kx : Arv Z h0 kx kk .byte zk ks (.int (0 : Int32))) (hzk : zk.toNatClampNeg ≤ 2) (F_elementData_kl : Fld Z h0 kl "java/util/ArrayList" "elementData" "[Ljava/lang/Object;" (.ref ar1)) (F_size_kl : Fld Z h0 kl "java/util/ArrayList" "size" "I" (.int n)) (F_modCount_kl : Fld Z h0 kl "java/util/AbstractList" "modCount" "I" (.int mk)) (F_elementData_wl : Fld Z h0 wl "java/util/ArrayList" "elementData" "[Ljava/lang/Object;" (.ref ar2)) (F_size_wl : Fld Z h0 wl "java/util/ArrayList" "size" "I" (.int n)) (F_modCount_wl : Fld Z h0 wl "java/util/AbstractList" "modCount" "I" (.int mw)) (V_ar1 : Arv Z h0 ar1 kr1 (.object "java/lang/Object") (10 : Int32) vs .null) (V_ar2 : Arv Z h0 ar2 kr2 (.object "java/lang/Object") (10 : Int32) wvs .null) (O_kr1 : Ovr Z kr1 "java/lang/Object") (O_kr2 : Ovr Z kr2 "java/lang/Object") (g_ar1 : n0 ≤ ar1) (g_ar2 : n0 ≤ ar2) (ne_ar1_ar2 : ar1 ≠ ar2) (ne_a_ar1 : a ≠ ar1) (ne_a_ar2 : a ≠ ar2) (ne_kl_ar1 : kl ≠ ar1) (ne_kl_ar2 : kl ≠ ar2) (ne_wl_ar1 : wl ≠ ar1) (ne_wl_ar2 : wl ≠ ar2) (hn0 : ¬ n < (0 : Int32)) (hn1 : n < (10 : Int32)) (hle : vs.length = 10) (hlw : wvs.length = 10) :
    Ct l Z (⟨"com/example/covering/covering/store/Batch", "delete", "([B)Lcom/example/covering/covering/store/Batch;"⟩ : MethodName) prog_17_method_3_code 2 (some (.object "com/example/covering/covering/store/Batch")) [] ({ frames := 2, cells := 1, slots := 2, locals := 28 } : Room) #[(.ref a), (.ref kx)] h0 (Q_deleteN Z a kx kk zk ks kl wl mk mw ar1 kr1 ar2 kr2 n vs wvs h0 n0) := by
  refine own_body (plainFor_of_name pn_5) (fun m => ef_deleteN m a kx) ?_
  intro p e s m below meth c T0 hx hby hml hZ hown hnm hret hlk X0 e0
  have N0 := Fr.nil n0
  refine g_aloadN X0 hx (hb hby d_prog_17_m_3_0) rfl rfl rfl ?_
  refine g_getF X0 hx hZ hown (host := "") (Or.inl (hw _ (List.mem_of_getElem? (i := 34) rfl))) Via.refl e0 F_keys_a (hb hby d_prog_17_m_3_1) rfl fun T1 X1 e1 => ?_
  refine g_aloadN X1 hx (hb hby d_prog_17_m_3_4) rfl rfl rfl ?_
  refine g_clone X1 hx hZ hown (hw _ (List.mem_of_getElem? (i := 47) rfl)) (hw _ (List.mem_of_getElem? (i := 48) rfl)) (hw _ (List.mem_of_getElem? (i := 52) rfl)) (hw _ (List.mem_of_getElem? (i := 50) rfl)) (hw _ (List.mem_of_getElem? (i := 51) rfl)) (hw _ (List.mem_of_getElem? (i := 53) rfl)) e1 V_kx E_kx (by rw [hml]; rfl) (hb hby d_prog_17_m_3_5) rfl (by decide) (W := 1) (Nat.le_of_eq rfl) (by decide) 2 hzk (by decide) (by decide) fun T2 h2 b2 X2 e2 q2 E2 A2 V2 => ?_
  have ne_a_b2 : a ≠ b2 := own_ne F_keys_a.lt q2
  have ne_ar1_b2 : ar1 ≠ b2 := own_ne V_ar1.lt q2
  have ne_ar2_b2 : ar2 ≠ b2 := own_ne V_ar2.lt q2
  have ne_kl_b2 : kl ≠ b2 := own_ne E_kl.lt q2
  have ne_kx_b2 : kx ≠ b2 := own_ne E_kx.lt q2
  have ne_wl_b2 : wl ≠ b2 := own_ne E_wl.lt q2
  have g_b2 : n0 ≤ b2 := Nat.le_trans Z0 (Nat.le_of_eq q2.symm)
  have sz_b2 : h0.size ≤ b2 := Nat.le_trans (Keep.refl h0 [kl, wl, ar1, ar2]).1 (Nat.le_of_eq q2.symm)
  have Z2 : n0 ≤ h2.size := Nat.le_trans Z0 E2.1
  have kk2 : Keep h0 h2 [kl, wl, ar1, ar2] := (Keep.refl h0 [kl, wl, ar1, ar2]).ext E2
  refine g_cast X2 hx hZ hown (hw _ (List.mem_of_getElem? (i := 54) rfl)) e2 (Ins.self A2) (hb hby d_prog_17_m_3_8) rfl fun T3 X3 e3 => ?_
  have f5 : Fld Z h2 kl "java/util/ArrayList" "elementData" "[Ljava/lang/Object;" (.ref ar1) := (F_elementData_kl.ext E2)
  have f6 : Fld Z h2 kl "java/util/ArrayList" "size" "I" (.int n) := (F_size_kl.ext E2)
  have f7 : Fld Z h2 kl "java/util/AbstractList" "modCount" "I" (.int mk) := (F_modCount_kl.ext E2)
  have f8 : Exa Z h2 kl "java/util/ArrayList" := (E_kl.ext E2)
  have f9 : Arv Z h2 ar1 kr1 (.object "java/lang/Object") (10 : Int32) vs .null := (V_ar1.ext E2)
  refine g_interface X3 hx hZ hown (hw _ (List.mem_of_getElem? (i := 56) rfl)) (hw _ (List.mem_of_getElem? (i := 57) rfl)) (hw _ (List.mem_of_getElem? (i := 58) rfl)) (hw _ (List.mem_of_getElem? (i := 59) rfl)) (hw _ (List.mem_of_getElem? (i := 60) rfl)) (hw _ (List.mem_of_getElem? (i := 61) rfl)) (hw _ (List.mem_of_getElem? (i := 62) rfl)) (hw _ (List.mem_of_getElem? (i := 63) rfl)) (hw _ (List.mem_of_getElem? (i := 12) rfl)) (hw _ (List.mem_of_getElem? (i := 64) rfl)) (by decide) (a := kl) f8 (rm_addn l Z a0 hw kl mk ar1 kr1 n vs b2 h2 n0 Z2 f5 f6 f7 f8 g_kl g_ar1 ne_kl_ar1 f9 O_kr1 hn0 hn1 hle (Ins.of_exa A2 (hw _ (List.mem_of_getElem? (i := 90) rfl)))) (by rw [hml]; rfl) e3 [(.ref b2)] rfl rfl (W := 0) (Nat.le_of_eq rfl) (by decide) (by decide) (by decide) (by decide) (lenOf pd_7 rfl) (hb hby d_prog_17_m_3_11) rfl fun v4 T4 L4 X4 hQ4 => ?_
  obtain ⟨rfl, Nq4, kc4, p4_0, p4_1, p4_2, p4_3, p4_4⟩ := hQ4
  have N4 := Fr.app N0 Nq4
  have kk4 : Keep h0 T4.heap [kl, wl, ar1, ar2] := kk2.trans kc4 (allS (Or.inl (by simp)) (allS (Or.inl (by simp)) all0))
  have Z4 : n0 ≤ T4.heap.size := Nat.le_trans Z2 kc4.1
  show Ga _ _ _ _ _ _ _ _ _ _ _ [(.int (1 : Int32))]
  refine g_pop X4 hx (hb hby d_prog_17_m_3_16) rfl rfl ?_
  refine g_aloadN X4 hx (hb hby d_prog_17_m_3_17) rfl rfl rfl ?_
  have f11 : Fld Z T4.heap a "com/example/covering/covering/store/Batch" "values" "Ljava/util/List;" (.ref wl) := ((F_values_a.ext E2).keep kc4 (ninS ne_a_kl (ninS ne_a_ar1 nin0)))
  refine g_getF X4 hx hZ hown (host := "") (Or.inl (hw _ (List.mem_of_getElem? (i := 36) rfl))) Via.refl rfl f11 (hb hby d_prog_17_m_3_18) rfl fun T10 X10 e10 => ?_
  refine g_aconst_null X10 hx (hb hby d_prog_17_m_3_21) rfl  ?_
  have f13 : Fld Z T4.heap wl "java/util/ArrayList" "elementData" "[Ljava/lang/Object;" (.ref ar2) := ((F_elementData_wl.ext E2).keep kc4 (ninS (Ne.symm ne_kl_wl) (ninS ne_wl_ar1 nin0)))
  have f14 : Fld Z T4.heap wl "java/util/ArrayList" "size" "I" (.int n) := ((F_size_wl.ext E2).keep kc4 (ninS (Ne.symm ne_kl_wl) (ninS ne_wl_ar1 nin0)))
  have f15 : Fld Z T4.heap wl "java/util/AbstractList" "modCount" "I" (.int mw) := ((F_modCount_wl.ext E2).keep kc4 (ninS (Ne.symm ne_kl_wl) (ninS ne_wl_ar1 nin0)))
  have f16 : Exa Z T4.heap wl "java/util/ArrayList" := ((E_wl.ext E2).keep kc4)
  have f17 : Arv Z T4.heap ar2 kr2 (.object "java/lang/Object") (10 : Int32) wvs .null := ((V_ar2.ext E2).keep kc4 (ninS (Ne.symm ne_kl_ar2) (ninS (Ne.symm ne_ar1_ar2) nin0)))
  refine g_interface X10 hx hZ hown (hw _ (List.mem_of_getElem? (i := 56) rfl)) (hw _ (List.mem_of_getElem? (i := 57) rfl)) (hw _ (List.mem_of_getElem? (i := 58) rfl)) (hw _ (List.mem_of_getElem? (i := 59) rfl)) (hw _ (List.mem_of_getElem? (i := 60) rfl)) (hw _ (List.mem_of_getElem? (i := 61) rfl)) (hw _ (List.mem_of_getElem? (i := 62) rfl)) (hw _ (List.mem_of_getElem? (i := 63) rfl)) (hw _ (List.mem_of_getElem? (i := 12) rfl)) (hw _ (List.mem_of_getElem? (i := 64) rfl)) (by decide) (a := wl) f16 (rm_addnN l Z a0 hw wl mw ar2 kr2 n wvs T4.heap n0 Z4 f13 f14 f15 f16 g_wl g_ar2 ne_wl_ar2 f17 O_kr2 hn0 hn1 hlw) (by rw [hml]; rfl) e10 [.null] rfl rfl (W := 0) (Nat.le_of_eq rfl) (by decide) (by decide) (by decide) (by decide) (lenOf pd_7 rfl) (hb hby d_prog_17_m_3_22) rfl fun v12 T12 L12 X12 hQ12 => ?_
  obtain ⟨rfl, Nq12, kc12, p12_0, p12_1, p12_2, p12_3, p12_4⟩ := hQ12
  have N12 := Fr.app N4 Nq12
  have kk12 : Keep h0 T12.heap [kl, wl, ar1, ar2] := kk4.trans kc12 (allS (Or.inl (by simp)) (allS (Or.inl (by simp)) all0))
  have Z12 : n0 ≤ T12.heap.size := Nat.le_trans Z4 kc12.1
  show Ga _ _ _ _ _ _ _ _ _ _ _ [(.int (1 : Int32))]
  refine g_pop X12 hx (hb hby d_prog_17_m_3_27) rfl rfl ?_
  refine g_aloadN X12 hx (hb hby d_prog_17_m_3_28) rfl rfl rfl ?_
  have f18 : Exa Z T12.heap kl "java/util/ArrayList" := (p4_0.keep kc12)
  have f19 : Exa Z T12.heap b2 "[B" := ((A2.keep kc4).keep kc12)
  have f20 : Arv Z T12.heap b2 kk .byte zk ks (.int (0 : Int32)) := ((V2.keep kc4 (ninS (Ne.symm ne_kl_b2) (ninS (Ne.symm ne_ar1_b2) nin0))).keep kc12 (ninS (Ne.symm ne_wl_b2) (ninS (Ne.symm ne_ar2_b2) nin0)))
  have f21 : Fld Z T12.heap kl "java/util/ArrayList" "elementData" "[Ljava/lang/Object;" (.ref ar1) := (p4_1.keep kc12 (ninS ne_kl_wl (ninS ne_kl_ar2 nin0)))
  have f22 : Fld Z T12.heap kl "java/util/ArrayList" "size" "I" (.int (n + (1 : Int32))) := (p4_2.keep kc12 (ninS ne_kl_wl (ninS ne_kl_ar2 nin0)))
  have f23 : Fld Z T12.heap kl "java/util/AbstractList" "modCount" "I" (.int (mk + (1 : Int32))) := (p4_3.keep kc12 (ninS ne_kl_wl (ninS ne_kl_ar2 nin0)))
  have f24 : Arv Z T12.heap ar1 kr1 (.object "java/lang/Object") (10 : Int32) (List.set vs (n).toNatClampNeg (.ref b2)) .null := (p4_4.keep kc12 (ninS (Ne.symm ne_wl_ar1) (ninS ne_ar1_ar2 nin0)))
  exact g_retR X12 hx hret hlk rfl rfl rfl (hb hby d_prog_17_m_3_29) (by decide) (by decide) ⟨b2, rfl, N12, kk12, sz_b2, f18, p12_0, f19, f20, f21, f22, f23, p12_1, p12_2, p12_3, f24, p12_4⟩
def Q_putF (Z : State) (a : Addr) (kx : Addr) (kk : ClassId) (zk : Int32) (ks : List Value) (kl : Addr) (wl : Addr) (mk : Int32) (mw : Int32) (d0 : Addr) (kd : ClassId) (vx : Addr) (kv : ClassId) (zv : Int32) (us : List Value) (h0 : Heap) (n0 : Nat) (v : Option Value) (h : Heap) (L : List Loc) : Prop := ∃ (cc1 : Addr) (ar1 : Addr) (kr1 : ClassId) (ar2 : Addr) (kr2 : ClassId) (cc2 : Addr), v = some (.ref a) ∧ Fr n0 L ∧ Keep h0 h [kl, wl] ∧ h0.size ≤ cc1 ∧ h0.size ≤ ar1 ∧ h0.size ≤ ar2 ∧ h0.size ≤ cc2 ∧ cc1 ≠ ar1 ∧ cc1 ≠ ar2 ∧ cc1 ≠ cc2 ∧ ar1 ≠ ar2 ∧ ar1 ≠ cc2 ∧ ar2 ≠ cc2 ∧ Exa Z h kl "java/util/ArrayList" ∧ Exa Z h wl "java/util/ArrayList" ∧ Exa Z h cc1 "[B" ∧ Arv Z h cc1 kk .byte zk ks (.int (0 : Int32)) ∧ Exa Z h cc2 "[B" ∧ Fld Z h kl "java/util/ArrayList" "elementData" "[Ljava/lang/Object;" (.ref ar1) ∧ Fld Z h kl "java/util/ArrayList" "size" "I" (.int (1 : Int32)) ∧ Fld Z h kl "java/util/AbstractList" "modCount" "I" (.int (mk + (1 : Int32))) ∧ Fld Z h wl "java/util/ArrayList" "elementData" "[Ljava/lang/Object;" (.ref ar2) ∧ Fld Z h wl "java/util/ArrayList" "size" "I" (.int (1 : Int32)) ∧ Fld Z h wl "java/util/AbstractList" "modCount" "I" (.int (mw + (1 : Int32))) ∧ Ovr Z kr1 "java/lang/Object" ∧ Ovr Z kr2 "java/lang/Object" ∧ Arv Z h ar1 kr1 (.object "java/lang/Object") (10 : Int32) [(.ref cc1), .null, .null, .null, .null, .null, .null, .null, .null, .null] .null ∧ Arv Z h ar2 kr2 (.object "java/lang/Object") (10 : Int32) [(.ref cc2), .null, .null, .null, .null, .null, .null, .null, .null, .null] .null
theorem ef_putF (m : MethodId) (x0 : Addr) (x1 : Addr) (x2 : Addr) : entryFrame m #[(.ref x0), (.ref x1), (.ref x2)] 3 = mkF m 0 #[.val (.ref x0), .val (.ref x1), .val (.ref x2)] [] := by first | (simp [entryFrame, mkF, argsToLocals, Value.category]; done) | rfl
set_option maxRecDepth 65536 in
set_option maxHeartbeats 40000000 in
theorem rm_putF (l : Launch) (Z : State) (a0 : Array Value) (hw : ∀ d ∈ tables_1, d.before a0 Z = true) (a : Addr) (kx : Addr) (kk : ClassId) (zk : Int32) (ks : List Value) (kl : Addr) (wl : Addr) (mk : Int32) (mw : Int32) (d0 : Addr) (kd : ClassId) (vx : Addr) (kv : ClassId) (zv : Int32) (us : List Value) (h0 : Heap) (n0 : Nat) (Z0 : n0 ≤ h0.size) (F_keys_a : Fld Z h0 a "com/example/covering/covering/store/Batch" "keys" "Ljava/util/List;" (.ref kl)) (F_values_a : Fld Z h0 a "com/example/covering/covering/store/Batch" "values" "Ljava/util/List;" (.ref wl)) (E_a : Exa Z h0 a "com/example/covering/covering/store/Batch") (E_kl : Exa Z h0 kl "java/util/ArrayList") (E_wl : Exa Z h0 wl "java/util/ArrayList") (g_kl : n0 ≤ kl) (g_wl : n0 ≤ wl) (ne_kl_wl : kl ≠ wl) (ne_a_kl : a ≠ kl) (ne_a_wl : a ≠ wl) (E_kx : Exa Z h0 kx "[B") (V_kx : Arv Z h0 kx kk .byte zk ks (.int (0 : Int32))) (hzk : zk.toNatClampNeg ≤ 2) (F_elementData_kl : Fld Z h0 kl "java/util/ArrayList" "elementData" "[Ljava/lang/Object;" (.ref d0)) (F_size_kl : Fld Z h0 kl "java/util/ArrayList" "size" "I" (.int (0 : Int32))) (F_modCount_kl : Fld Z h0 kl "java/util/AbstractList" "modCount" "I" (.int mk)) (F_elementData_wl : Fld Z h0 wl "java/util/ArrayList" "elementData" "[Ljava/lang/Object;" (.ref d0)) (F_size_wl : Fld Z h0 wl "java/util/ArrayList" "size" "I" (.int (0 : Int32))) (F_modCount_wl : Fld Z h0 wl "java/util/AbstractList" "modCount" "I" (.int mw)) (old0 : Old Z n0 h0) (S0_DEFAULTCAPACITY_EMPTY_ELEMENTDATA : Sta Z Z.heap "java/util/ArrayList" "DEFAULTCAPACITY_EMPTY_ELEMENTDATA" "[Ljava/lang/Object;" (.ref d0)) (V0_d0 : Arv Z Z.heap d0 kd (.object "java/lang/Object") (0 : Int32) [] .null) (E_vx : Exa Z h0 vx "[B") (V_vx : Arv Z h0 vx kv .byte zv us (.int (0 : Int32))) (hzv : zv.toNatClampNeg ≤ 1) (ne_vx_kl : vx ≠ kl) :
    Ct l Z (⟨"com/example/covering/covering/store/Batch", "put", "([B[B)Lcom/example/covering/covering/store/Batch;"⟩ : MethodName) prog_17_method_2_code 3 (some (.object "com/example/covering/covering/store/Batch")) [] ({ frames := 5, cells := 4, slots := 23, locals := 69 } : Room) #[(.ref a), (.ref kx), (.ref vx)] h0 (Q_putF Z a kx kk zk ks kl wl mk mw d0 kd vx kv zv us h0 n0) := by
  refine own_body (plainFor_of_name pn_5) (fun m => ef_putF m a kx vx) ?_
  intro p e s m below meth c T0 hx hby hml hZ hown hnm hret hlk X0 e0
  have N0 := Fr.nil n0
  refine g_aloadN X0 hx (hb hby d_prog_17_m_2_0) rfl rfl rfl ?_
  refine g_getF X0 hx hZ hown (host := "") (Or.inl (hw _ (List.mem_of_getElem? (i := 34) rfl))) Via.refl e0 F_keys_a (hb hby d_prog_17_m_2_1) rfl fun T1 X1 e1 => ?_
  refine g_aloadN X1 hx (hb hby d_prog_17_m_2_4) rfl rfl rfl ?_
  refine g_clone X1 hx hZ hown (hw _ (List.mem_of_getElem? (i := 47) rfl)) (hw _ (List.mem_of_getElem? (i := 48) rfl)) (hw _ (List.mem_of_getElem? (i := 52) rfl)) (hw _ (List.mem_of_getElem? (i := 50) rfl)) (hw _ (List.mem_of_getElem? (i := 51) rfl)) (hw _ (List.mem_of_getElem? (i := 53) rfl)) e1 V_kx E_kx (by rw [hml]; rfl) (hb hby d_prog_17_m_2_5) rfl (by decide) (W := 1) (Nat.le_of_eq rfl) (by decide) 2 hzk (by decide) (by decide) fun T2 h2 b2 X2 e2 q2 E2 A2 V2 => ?_
  have ne_a_b2 : a ≠ b2 := own_ne F_keys_a.lt q2
  have ne_kl_b2 : kl ≠ b2 := own_ne E_kl.lt q2
  have ne_kx_b2 : kx ≠ b2 := own_ne E_kx.lt q2
  have ne_vx_b2 : vx ≠ b2 := own_ne E_vx.lt q2
  have ne_wl_b2 : wl ≠ b2 := own_ne E_wl.lt q2
  have g_b2 : n0 ≤ b2 := Nat.le_trans Z0 (Nat.le_of_eq q2.symm)
  have sz_b2 : h0.size ≤ b2 := Nat.le_trans (Keep.refl h0 [kl, wl]).1 (Nat.le_of_eq q2.symm)
  have Z2 : n0 ≤ h2.size := Nat.le_trans Z0 E2.1
  have kk2 : Keep h0 h2 [kl, wl] := (Keep.refl h0 [kl, wl]).ext E2
  refine g_cast X2 hx hZ hown (hw _ (List.mem_of_getElem? (i := 54) rfl)) e2 (Ins.self A2) (hb hby d_prog_17_m_2_8) rfl fun T3 X3 e3 => ?_
  have f5 : Fld Z h2 kl "java/util/ArrayList" "elementData" "[Ljava/lang/Object;" (.ref d0) := (F_elementData_kl.ext E2)
  have f6 : Fld Z h2 kl "java/util/ArrayList" "size" "I" (.int (0 : Int32)) := (F_size_kl.ext E2)
  have f7 : Fld Z h2 kl "java/util/AbstractList" "modCount" "I" (.int mk) := (F_modCount_kl.ext E2)
  have f8 : Exa Z h2 kl "java/util/ArrayList" := (E_kl.ext E2)
  have f9 : Old Z n0 h2 := (old0.ext E2)
  refine g_interface X3 hx hZ hown (hw _ (List.mem_of_getElem? (i := 56) rfl)) (hw _ (List.mem_of_getElem? (i := 57) rfl)) (hw _ (List.mem_of_getElem? (i := 58) rfl)) (hw _ (List.mem_of_getElem? (i := 59) rfl)) (hw _ (List.mem_of_getElem? (i := 60) rfl)) (hw _ (List.mem_of_getElem? (i := 61) rfl)) (hw _ (List.mem_of_getElem? (i := 62) rfl)) (hw _ (List.mem_of_getElem? (i := 63) rfl)) (hw _ (List.mem_of_getElem? (i := 12) rfl)) (hw _ (List.mem_of_getElem? (i := 64) rfl)) (by decide) (a := kl) f8 (rm_addf l Z a0 hw kl mk d0 kd b2 h2 n0 Z2 f5 f6 f7 f8 g_kl f9 S0_DEFAULTCAPACITY_EMPTY_ELEMENTDATA V0_d0 (Ins.of_exa A2 (hw _ (List.mem_of_getElem? (i := 90) rfl)))) (by rw [hml]; rfl) e3 [(.ref b2)] rfl rfl (W := 0) (Nat.le_of_eq rfl) (by decide) (by decide) (by decide) (by decide) (lenOf pd_7 rfl) (hb hby d_prog_17_m_2_11) rfl fun v4 T4 L4 X4 hQ4 => ?_
  obtain ⟨b_4, kb_4, rfl, Nq4, kc4, p4_0, p4_1, p4_2, p4_3, p4_4, p4_5, p4_6⟩ := hQ4
  have N4 := Fr.app N0 Nq4
  have f10 : Fld Z h2 a "com/example/covering/covering/store/Batch" "keys" "Ljava/util/List;" (.ref kl) := (F_keys_a.ext E2)
  have f11 : Exa Z h2 kx "[B" := (E_kx.ext E2)
  have f12 : Exa Z h2 vx "[B" := (E_vx.ext E2)
  have f13 : Exa Z h2 wl "java/util/ArrayList" := (E_wl.ext E2)
  have ne_a_b_4 : a ≠ b_4 := own_neK f10.lt p4_0
  have ne_b2_b_4 : b2 ≠ b_4 := own_neK A2.lt p4_0
  have ne_kl_b_4 : kl ≠ b_4 := own_neK f8.lt p4_0
  have ne_kx_b_4 : kx ≠ b_4 := own_neK f11.lt p4_0
  have ne_vx_b_4 : vx ≠ b_4 := own_neK f12.lt p4_0
  have ne_wl_b_4 : wl ≠ b_4 := own_neK f13.lt p4_0
  have g_b_4 : n0 ≤ b_4 := Nat.le_trans Z2 p4_0
  have sz_b_4 : h0.size ≤ b_4 := Nat.le_trans kk2.1 p4_0
  have kk4 : Keep h0 T4.heap [kl, wl] := kk2.trans kc4 (allS (Or.inl (by simp)) all0)
  have Z4 : n0 ≤ T4.heap.size := Nat.le_trans Z2 kc4.1
  have pv4_6 : Arv Z T4.heap b_4 kb_4 (.object "java/lang/Object") (10 : Int32) [(.ref b2), .null, .null, .null, .null, .null, .null, .null, .null, .null] .null := p4_6
  show Ga _ _ _ _ _ _ _ _ _ _ _ [(.int (1 : Int32))]
  refine g_pop X4 hx (hb hby d_prog_17_m_2_16) rfl rfl ?_
  refine g_aloadN X4 hx (hb hby d_prog_17_m_2_17) rfl rfl rfl ?_
  have f15 : Fld Z T4.heap a "com/example/covering/covering/store/Batch" "values" "Ljava/util/List;" (.ref wl) := ((F_values_a.ext E2).keep kc4 (ninS ne_a_kl nin0))
  refine g_getF X4 hx hZ hown (host := "") (Or.inl (hw _ (List.mem_of_getElem? (i := 36) rfl))) Via.refl rfl f15 (hb hby d_prog_17_m_2_18) rfl fun T14 X14 e14 => ?_
  refine g_aloadN X14 hx (hb hby d_prog_17_m_2_21) rfl rfl rfl ?_
  have f17 : Arv Z T4.heap vx kv .byte zv us (.int (0 : Int32)) := ((V_vx.ext E2).keep kc4 (ninS ne_vx_kl nin0))
  have f18 : Exa Z T4.heap vx "[B" := (f12.keep kc4)
  have f19 : Fld Z T4.heap a "com/example/covering/covering/store/Batch" "keys" "Ljava/util/List;" (.ref kl) := (f10.keep kc4 (ninS ne_a_kl nin0))
  have f20 : Exa Z T4.heap b2 "[B" := (A2.keep kc4)
  have f21 : Exa Z T4.heap kx "[B" := (f11.keep kc4)
  have f22 : Exa Z T4.heap wl "java/util/ArrayList" := (f13.keep kc4)
  refine g_clone X14 hx hZ hown (hw _ (List.mem_of_getElem? (i := 47) rfl)) (hw _ (List.mem_of_getElem? (i := 48) rfl)) (hw _ (List.mem_of_getElem? (i := 52) rfl)) (hw _ (List.mem_of_getElem? (i := 50) rfl)) (hw _ (List.mem_of_getElem? (i := 51) rfl)) (hw _ (List.mem_of_getElem? (i := 53) rfl)) e14 f17 f18 (by rw [hml]; rfl) (hb hby d_prog_17_m_2_22) rfl (by decide) (W := 1) (Nat.le_of_eq rfl) (by decide) 1 hzv (by decide) (by decide) fun T16 h16 b16 X16 e16 q16 E16 A16 V16 => ?_
  have ne_a_b16 : a ≠ b16 := own_ne f19.lt q16
  have ne_b2_b16 : b2 ≠ b16 := own_ne f20.lt q16
  have ne_b_4_b16 : b_4 ≠ b16 := own_ne pv4_6.lt q16
  have ne_kl_b16 : kl ≠ b16 := own_ne p4_1.lt q16
  have ne_kx_b16 : kx ≠ b16 := own_ne f21.lt q16
  have ne_vx_b16 : vx ≠ b16 := own_ne f18.lt q16
  have ne_wl_b16 : wl ≠ b16 := own_ne f22.lt q16
  have g_b16 : n0 ≤ b16 := Nat.le_trans Z4 (Nat.le_of_eq q16.symm)
  have sz_b16 : h0.size ≤ b16 := Nat.le_trans kk4.1 (Nat.le_of_eq q16.symm)
  have Z16 : n0 ≤ h16.size := Nat.le_trans Z4 E16.1
  have kk16 : Keep h0 h16 [kl, wl] := kk4.ext E16
  refine g_cast X16 hx hZ hown (hw _ (List.mem_of_getElem? (i := 54) rfl)) e16 (Ins.self A16) (hb hby d_prog_17_m_2_25) rfl fun T23 X23 e23 => ?_
  have f25 : Fld Z h16 wl "java/util/ArrayList" "elementData" "[Ljava/lang/Object;" (.ref d0) := (((F_elementData_wl.ext E2).keep kc4 (ninS (Ne.symm ne_kl_wl) nin0)).ext E16)
  have f26 : Fld Z h16 wl "java/util/ArrayList" "size" "I" (.int (0 : Int32)) := (((F_size_wl.ext E2).keep kc4 (ninS (Ne.symm ne_kl_wl) nin0)).ext E16)
  have f27 : Fld Z h16 wl "java/util/AbstractList" "modCount" "I" (.int mw) := (((F_modCount_wl.ext E2).keep kc4 (ninS (Ne.symm ne_kl_wl) nin0)).ext E16)
  have f28 : Exa Z h16 wl "java/util/ArrayList" := (f22.ext E16)
  have f29 : Old Z n0 h16 := ((f9.keep kc4 (allS g_kl all0)).ext E16)
  refine g_interface X23 hx hZ hown (hw _ (List.mem_of_getElem? (i := 56) rfl)) (hw _ (List.mem_of_getElem? (i := 57) rfl)) (hw _ (List.mem_of_getElem? (i := 58) rfl)) (hw _ (List.mem_of_getElem? (i := 59) rfl)) (hw _ (List.mem_of_getElem? (i := 60) rfl)) (hw _ (List.mem_of_getElem? (i := 61) rfl)) (hw _ (List.mem_of_getElem? (i := 62) rfl)) (hw _ (List.mem_of_getElem? (i := 63) rfl)) (hw _ (List.mem_of_getElem? (i := 12) rfl)) (hw _ (List.mem_of_getElem? (i := 64) rfl)) (by decide) (a := wl) f28 (rm_addf l Z a0 hw wl mw d0 kd b16 h16 n0 Z16 f25 f26 f27 f28 g_wl f29 S0_DEFAULTCAPACITY_EMPTY_ELEMENTDATA V0_d0 (Ins.of_exa A16 (hw _ (List.mem_of_getElem? (i := 90) rfl)))) (by rw [hml]; rfl) e23 [(.ref b16)] rfl rfl (W := 0) (Nat.le_of_eq rfl) (by decide) (by decide) (by decide) (by decide) (lenOf pd_7 rfl) (hb hby d_prog_17_m_2_28) rfl fun v24 T24 L24 X24 hQ24 => ?_
  obtain ⟨b_24, kb_24, rfl, Nq24, kc24, p24_0, p24_1, p24_2, p24_3, p24_4, p24_5, p24_6⟩ := hQ24
  have N24 := Fr.app N4 Nq24
  have f30 : Fld Z h16 a "com/example/covering/covering/store/Batch" "keys" "Ljava/util/List;" (.ref kl) := (f19.ext E16)
  have f31 : Exa Z h16 b2 "[B" := (f20.ext E16)
  have f32 : Arv Z h16 b_4 kb_4 (.object "java/lang/Object") (10 : Int32) [(.ref b2), .null, .null, .null, .null, .null, .null, .null, .null, .null] .null := (pv4_6.ext E16)
  have f33 : Exa Z h16 kl "java/util/ArrayList" := (p4_1.ext E16)
  have f34 : Exa Z h16 kx "[B" := (f21.ext E16)
  have f35 : Exa Z h16 vx "[B" := (f18.ext E16)
  have ne_a_b_24 : a ≠ b_24 := own_neK f30.lt p24_0
  have ne_b16_b_24 : b16 ≠ b_24 := own_neK A16.lt p24_0
  have ne_b2_b_24 : b2 ≠ b_24 := own_neK f31.lt p24_0
  have ne_b_4_b_24 : b_4 ≠ b_24 := own_neK f32.lt p24_0
  have ne_kl_b_24 : kl ≠ b_24 := own_neK f33.lt p24_0
  have ne_kx_b_24 : kx ≠ b_24 := own_neK f34.lt p24_0
  have ne_vx_b_24 : vx ≠ b_24 := own_neK f35.lt p24_0
  have ne_wl_b_24 : wl ≠ b_24 := own_neK f28.lt p24_0
  have g_b_24 : n0 ≤ b_24 := Nat.le_trans Z16 p24_0
  have sz_b_24 : h0.size ≤ b_24 := Nat.le_trans kk16.1 p24_0
  have kk24 : Keep h0 T24.heap [kl, wl] := kk16.trans kc24 (allS (Or.inl (by simp)) all0)
  have Z24 : n0 ≤ T24.heap.size := Nat.le_trans Z16 kc24.1
  have pv24_6 : Arv Z T24.heap b_24 kb_24 (.object "java/lang/Object") (10 : Int32) [(.ref b16), .null, .null, .null, .null, .null, .null, .null, .null, .null] .null := p24_6
  show Ga _ _ _ _ _ _ _ _ _ _ _ [(.int (1 : Int32))]
  refine g_pop X24 hx (hb hby d_prog_17_m_2_33) rfl rfl ?_
  refine g_aloadN X24 hx (hb hby d_prog_17_m_2_34) rfl rfl rfl ?_
  have f36 : Exa Z T24.heap kl "java/util/ArrayList" := (f33.keep kc24)
  have f37 : Exa Z T24.heap b2 "[B" := (f31.keep kc24)
  have f38 : Arv Z T24.heap b2 kk .byte zk ks (.int (0 : Int32)) := (((V2.keep kc4 (ninS (Ne.symm ne_kl_b2) nin0)).ext E16).keep kc24 (ninS (Ne.symm ne_wl_b2) nin0))
  have f39 : Exa Z T24.heap b16 "[B" := (A16.keep kc24)
  have f40 : Fld Z T24.heap kl "java/util/ArrayList" "elementData" "[Ljava/lang/Object;" (.ref b_4) := ((p4_2.ext E16).keep kc24 (ninS ne_kl_wl nin0))
  have f41 : Fld Z T24.heap kl "java/util/ArrayList" "size" "I" (.int (1 : Int32)) := ((p4_3.ext E16).keep kc24 (ninS ne_kl_wl nin0))
  have f42 : Fld Z T24.heap kl "java/util/AbstractList" "modCount" "I" (.int (mk + (1 : Int32))) := ((p4_4.ext E16).keep kc24 (ninS ne_kl_wl nin0))
  have f43 : Arv Z T24.heap b_4 kb_4 (.object "java/lang/Object") (10 : Int32) [(.ref b2), .null, .null, .null, .null, .null, .null, .null, .null, .null] .null := (f32.keep kc24 (ninS (Ne.symm ne_wl_b_4) nin0))
  exact g_retR X24 hx hret hlk rfl rfl rfl (hb hby d_prog_17_m_2_35) (by decide) (by decide) ⟨b2, b_4, kb_4, b_24, kb_24, b16, rfl, N24, kk24, sz_b2, sz_b_4, sz_b_24, sz_b16, ne_b2_b_4, ne_b2_b_24, ne_b2_b16, ne_b_4_b_24, ne_b_4_b16, (Ne.symm ne_b16_b_24), f36, p24_1, f37, f38, f39, f40, f41, f42, p24_2, p24_3, p24_4, p4_5, p24_5, f43, pv24_6⟩
def Q_putN (Z : State) (a : Addr) (kx : Addr) (kk : ClassId) (zk : Int32) (ks : List Value) (kl : Addr) (wl : Addr) (mk : Int32) (mw : Int32) (ar1 : Addr) (kr1 : ClassId) (ar2 : Addr) (kr2 : ClassId) (n : Int32) (vs : List Value) (wvs : List Value) (vx : Addr) (kv : ClassId) (zv : Int32) (us : List Value) (h0 : Heap) (n0 : Nat) (v : Option Value) (h : Heap) (L : List Loc) : Prop := ∃ (cc1 : Addr) (cc2 : Addr), v = some (.ref a) ∧ Fr n0 L ∧ Keep h0 h [kl, wl, ar1, ar2] ∧ h0.size ≤ cc1 ∧ h0.size ≤ cc2 ∧ cc1 ≠ cc2 ∧ Exa Z h kl "java/util/ArrayList" ∧ Exa Z h wl "java/util/ArrayList" ∧ Exa Z h cc1 "[B" ∧ Arv Z h cc1 kk .byte zk ks (.int (0 : Int32)) ∧ Exa Z h cc2 "[B" ∧ Fld Z h kl "java/util/ArrayList" "elementData" "[Ljava/lang/Object;" (.ref ar1) ∧ Fld Z h kl "java/util/ArrayList" "size" "I" (.int (n + (1 : Int32))) ∧ Fld Z h kl "java/util/AbstractList" "modCount" "I" (.int (mk + (1 : Int32))) ∧ Fld Z h wl "java/util/ArrayList" "elementData" "[Ljava/lang/Object;" (.ref ar2) ∧ Fld Z h wl "java/util/ArrayList" "size" "I" (.int (n + (1 : Int32))) ∧ Fld Z h wl "java/util/AbstractList" "modCount" "I" (.int (mw + (1 : Int32))) ∧ Arv Z h ar1 kr1 (.object "java/lang/Object") (10 : Int32) (List.set vs (n).toNatClampNeg (.ref cc1)) .null ∧ Arv Z h ar2 kr2 (.object "java/lang/Object") (10 : Int32) (List.set wvs (n).toNatClampNeg (.ref cc2)) .null
theorem ef_putN (m : MethodId) (x0 : Addr) (x1 : Addr) (x2 : Addr) : entryFrame m #[(.ref x0), (.ref x1), (.ref x2)] 3 = mkF m 0 #[.val (.ref x0), .val (.ref x1), .val (.ref x2)] [] := by first | (simp [entryFrame, mkF, argsToLocals, Value.category]; done) | rfl
set_option maxRecDepth 65536 in
set_option maxHeartbeats 40000000 in
theorem rm_putN (l : Launch) (Z : State) (a0 : Array Value) (hw : ∀ d ∈ tables_1, d.before a0 Z = true) (a : Addr) (kx : Addr) (kk : ClassId) (zk : Int32) (ks : List Value) (kl : Addr) (wl : Addr) (mk : Int32) (mw : Int32) (ar1 : Addr) (kr1 : ClassId) (ar2 : Addr) (kr2 : ClassId) (n : Int32) (vs : List Value) (wvs : List Value) (vx : Addr) (kv : ClassId) (zv : Int32) (us : List Value) (h0 : Heap) (n0 : Nat) (Z0 : n0 ≤ h0.size) (F_keys_a : Fld Z h0 a "com/example/covering/covering/store/Batch" "keys" "Ljava/util/List;" (.ref kl)) (F_values_a : Fld Z h0 a "com/example/covering/covering/store/Batch" "values" "Ljava/util/List;" (.ref wl)) (E_a : Exa Z h0 a "com/example/covering/covering/store/Batch") (E_kl : Exa Z h0 kl "java/util/ArrayList") (E_wl : Exa Z h0 wl "java/util/ArrayList") (g_kl : n0 ≤ kl) (g_wl : n0 ≤ wl) (ne_kl_wl : kl ≠ wl) (ne_a_kl : a ≠ kl) (ne_a_wl : a ≠ wl) (E_kx : Exa Z h0 kx "[B") (V_kx : Arv Z h0 kx kk .byte zk ks (.int (0 : Int32))) (hzk : zk.toNatClampNeg ≤ 2) (F_elementData_kl : Fld Z h0 kl "java/util/ArrayList" "elementData" "[Ljava/lang/Object;" (.ref ar1)) (F_size_kl : Fld Z h0 kl "java/util/ArrayList" "size" "I" (.int n)) (F_modCount_kl : Fld Z h0 kl "java/util/AbstractList" "modCount" "I" (.int mk)) (F_elementData_wl : Fld Z h0 wl "java/util/ArrayList" "elementData" "[Ljava/lang/Object;" (.ref ar2)) (F_size_wl : Fld Z h0 wl "java/util/ArrayList" "size" "I" (.int n)) (F_modCount_wl : Fld Z h0 wl "java/util/AbstractList" "modCount" "I" (.int mw)) (V_ar1 : Arv Z h0 ar1 kr1 (.object "java/lang/Object") (10 : Int32) vs .null) (V_ar2 : Arv Z h0 ar2 kr2 (.object "java/lang/Object") (10 : Int32) wvs .null) (O_kr1 : Ovr Z kr1 "java/lang/Object") (O_kr2 : Ovr Z kr2 "java/lang/Object") (g_ar1 : n0 ≤ ar1) (g_ar2 : n0 ≤ ar2) (ne_ar1_ar2 : ar1 ≠ ar2) (ne_a_ar1 : a ≠ ar1) (ne_a_ar2 : a ≠ ar2) (ne_kl_ar1 : kl ≠ ar1) (ne_kl_ar2 : kl ≠ ar2) (ne_wl_ar1 : wl ≠ ar1) (ne_wl_ar2 : wl ≠ ar2) (hn0 : ¬ n < (0 : Int32)) (hn1 : n < (10 : Int32)) (hle : vs.length = 10) (hlw : wvs.length = 10) (ne_vx_kl : vx ≠ kl) (ne_vx_ar1 : vx ≠ ar1) (E_vx : Exa Z h0 vx "[B") (V_vx : Arv Z h0 vx kv .byte zv us (.int (0 : Int32))) (hzv : zv.toNatClampNeg ≤ 1) :
    Ct l Z (⟨"com/example/covering/covering/store/Batch", "put", "([B[B)Lcom/example/covering/covering/store/Batch;"⟩ : MethodName) prog_17_method_2_code 3 (some (.object "com/example/covering/covering/store/Batch")) [] ({ frames := 2, cells := 2, slots := 3, locals := 28 } : Room) #[(.ref a), (.ref kx), (.ref vx)] h0 (Q_putN Z a kx kk zk ks kl wl mk mw ar1 kr1 ar2 kr2 n vs wvs vx kv zv us h0 n0) := by
  refine own_body (plainFor_of_name pn_5) (fun m => ef_putN m a kx vx) ?_
  intro p e s m below meth c T0 hx hby hml hZ hown hnm hret hlk X0 e0
  have N0 := Fr.nil n0
  refine g_aloadN X0 hx (hb hby d_prog_17_m_2_0) rfl rfl rfl ?_
  refine g_getF X0 hx hZ hown (host := "") (Or.inl (hw _ (List.mem_of_getElem? (i := 34) rfl))) Via.refl e0 F_keys_a (hb hby d_prog_17_m_2_1) rfl fun T1 X1 e1 => ?_
  refine g_aloadN X1 hx (hb hby d_prog_17_m_2_4) rfl rfl rfl ?_
  refine g_clone X1 hx hZ hown (hw _ (List.mem_of_getElem? (i := 47) rfl)) (hw _ (List.mem_of_getElem? (i := 48) rfl)) (hw _ (List.mem_of_getElem? (i := 52) rfl)) (hw _ (List.mem_of_getElem? (i := 50) rfl)) (hw _ (List.mem_of_getElem? (i := 51) rfl)) (hw _ (List.mem_of_getElem? (i := 53) rfl)) e1 V_kx E_kx (by rw [hml]; rfl) (hb hby d_prog_17_m_2_5) rfl (by decide) (W := 1) (Nat.le_of_eq rfl) (by decide) 2 hzk (by decide) (by decide) fun T2 h2 b2 X2 e2 q2 E2 A2 V2 => ?_
  have ne_a_b2 : a ≠ b2 := own_ne F_keys_a.lt q2
  have ne_ar1_b2 : ar1 ≠ b2 := own_ne V_ar1.lt q2
  have ne_ar2_b2 : ar2 ≠ b2 := own_ne V_ar2.lt q2
  have ne_kl_b2 : kl ≠ b2 := own_ne E_kl.lt q2
  have ne_kx_b2 : kx ≠ b2 := own_ne E_kx.lt q2
  have ne_vx_b2 : vx ≠ b2 := own_ne E_vx.lt q2
  have ne_wl_b2 : wl ≠ b2 := own_ne E_wl.lt q2
  have g_b2 : n0 ≤ b2 := Nat.le_trans Z0 (Nat.le_of_eq q2.symm)
  have sz_b2 : h0.size ≤ b2 := Nat.le_trans (Keep.refl h0 [kl, wl, ar1, ar2]).1 (Nat.le_of_eq q2.symm)
  have Z2 : n0 ≤ h2.size := Nat.le_trans Z0 E2.1
  have kk2 : Keep h0 h2 [kl, wl, ar1, ar2] := (Keep.refl h0 [kl, wl, ar1, ar2]).ext E2
  refine g_cast X2 hx hZ hown (hw _ (List.mem_of_getElem? (i := 54) rfl)) e2 (Ins.self A2) (hb hby d_prog_17_m_2_8) rfl fun T3 X3 e3 => ?_
  have f5 : Fld Z h2 kl "java/util/ArrayList" "elementData" "[Ljava/lang/Object;" (.ref ar1) := (F_elementData_kl.ext E2)
  have f6 : Fld Z h2 kl "java/util/ArrayList" "size" "I" (.int n) := (F_size_kl.ext E2)
  have f7 : Fld Z h2 kl "java/util/AbstractList" "modCount" "I" (.int mk) := (F_modCount_kl.ext E2)
  have f8 : Exa Z h2 kl "java/util/ArrayList" := (E_kl.ext E2)
  have f9 : Arv Z h2 ar1 kr1 (.object "java/lang/Object") (10 : Int32) vs .null := (V_ar1.ext E2)
  refine g_interface X3 hx hZ hown (hw _ (List.mem_of_getElem? (i := 56) rfl)) (hw _ (List.mem_of_getElem? (i := 57) rfl)) (hw _ (List.mem_of_getElem? (i := 58) rfl)) (hw _ (List.mem_of_getElem? (i := 59) rfl)) (hw _ (List.mem_of_getElem? (i := 60) rfl)) (hw _ (List.mem_of_getElem? (i := 61) rfl)) (hw _ (List.mem_of_getElem? (i := 62) rfl)) (hw _ (List.mem_of_getElem? (i := 63) rfl)) (hw _ (List.mem_of_getElem? (i := 12) rfl)) (hw _ (List.mem_of_getElem? (i := 64) rfl)) (by decide) (a := kl) f8 (rm_addn l Z a0 hw kl mk ar1 kr1 n vs b2 h2 n0 Z2 f5 f6 f7 f8 g_kl g_ar1 ne_kl_ar1 f9 O_kr1 hn0 hn1 hle (Ins.of_exa A2 (hw _ (List.mem_of_getElem? (i := 90) rfl)))) (by rw [hml]; rfl) e3 [(.ref b2)] rfl rfl (W := 0) (Nat.le_of_eq rfl) (by decide) (by decide) (by decide) (by decide) (lenOf pd_7 rfl) (hb hby d_prog_17_m_2_11) rfl fun v4 T4 L4 X4 hQ4 => ?_
  obtain ⟨rfl, Nq4, kc4, p4_0, p4_1, p4_2, p4_3, p4_4⟩ := hQ4
  have N4 := Fr.app N0 Nq4
  have kk4 : Keep h0 T4.heap [kl, wl, ar1, ar2] := kk2.trans kc4 (allS (Or.inl (by simp)) (allS (Or.inl (by simp)) all0))
  have Z4 : n0 ≤ T4.heap.size := Nat.le_trans Z2 kc4.1
  show Ga _ _ _ _ _ _ _ _ _ _ _ [(.int (1 : Int32))]
  refine g_pop X4 hx (hb hby d_prog_17_m_2_16) rfl rfl ?_
  refine g_aloadN X4 hx (hb hby d_prog_17_m_2_17) rfl rfl rfl ?_
  have f11 : Fld Z T4.heap a "com/example/covering/covering/store/Batch" "values" "Ljava/util/List;" (.ref wl) := ((F_values_a.ext E2).keep kc4 (ninS ne_a_kl (ninS ne_a_ar1 nin0)))
  refine g_getF X4 hx hZ hown (host := "") (Or.inl (hw _ (List.mem_of_getElem? (i := 36) rfl))) Via.refl rfl f11 (hb hby d_prog_17_m_2_18) rfl fun T10 X10 e10 => ?_
  refine g_aloadN X10 hx (hb hby d_prog_17_m_2_21) rfl rfl rfl ?_
  have f13 : Arv Z T4.heap vx kv .byte zv us (.int (0 : Int32)) := ((V_vx.ext E2).keep kc4 (ninS ne_vx_kl (ninS ne_vx_ar1 nin0)))
  have f14 : Exa Z T4.heap vx "[B" := ((E_vx.ext E2).keep kc4)
  have f15 : Fld Z T4.heap a "com/example/covering/covering/store/Batch" "keys" "Ljava/util/List;" (.ref kl) := ((F_keys_a.ext E2).keep kc4 (ninS ne_a_kl (ninS ne_a_ar1 nin0)))
  have f16 : Arv Z T4.heap ar2 kr2 (.object "java/lang/Object") (10 : Int32) wvs .null := ((V_ar2.ext E2).keep kc4 (ninS (Ne.symm ne_kl_ar2) (ninS (Ne.symm ne_ar1_ar2) nin0)))
  have f17 : Exa Z T4.heap b2 "[B" := (A2.keep kc4)
  have f18 : Exa Z T4.heap kx "[B" := ((E_kx.ext E2).keep kc4)
  have f19 : Exa Z T4.heap wl "java/util/ArrayList" := ((E_wl.ext E2).keep kc4)
  refine g_clone X10 hx hZ hown (hw _ (List.mem_of_getElem? (i := 47) rfl)) (hw _ (List.mem_of_getElem? (i := 48) rfl)) (hw _ (List.mem_of_getElem? (i := 52) rfl)) (hw _ (List.mem_of_getElem? (i := 50) rfl)) (hw _ (List.mem_of_getElem? (i := 51) rfl)) (hw _ (List.mem_of_getElem? (i := 53) rfl)) e10 f13 f14 (by rw [hml]; rfl) (hb hby d_prog_17_m_2_22) rfl (by decide) (W := 1) (Nat.le_of_eq rfl) (by decide) 1 hzv (by decide) (by decide) fun T12 h12 b12 X12 e12 q12 E12 A12 V12 => ?_
  have ne_a_b12 : a ≠ b12 := own_ne f15.lt q12
  have ne_ar1_b12 : ar1 ≠ b12 := own_ne p4_4.lt q12
  have ne_ar2_b12 : ar2 ≠ b12 := own_ne f16.lt q12
  have ne_b2_b12 : b2 ≠ b12 := own_ne f17.lt q12
  have ne_kl_b12 : kl ≠ b12 := own_ne p4_0.lt q12
  have ne_kx_b12 : kx ≠ b12 := own_ne f18.lt q12
  have ne_vx_b12 : vx ≠ b12 := own_ne f14.lt q12
  have ne_wl_b12 : wl ≠ b12 := own_ne f19.lt q12
  have g_b12 : n0 ≤ b12 := Nat.le_trans Z4 (Nat.le_of_eq q12.symm)
  have sz_b12 : h0.size ≤ b12 := Nat.le_trans kk4.1 (Nat.le_of_eq q12.symm)
  have Z12 : n0 ≤ h12.size := Nat.le_trans Z4 E12.1
  have kk12 : Keep h0 h12 [kl, wl, ar1, ar2] := kk4.ext E12
  refine g_cast X12 hx hZ hown (hw _ (List.mem_of_getElem? (i := 54) rfl)) e12 (Ins.self A12) (hb hby d_prog_17_m_2_25) rfl fun T20 X20 e20 => ?_
  have f22 : Fld Z h12 wl "java/util/ArrayList" "elementData" "[Ljava/lang/Object;" (.ref ar2) := (((F_elementData_wl.ext E2).keep kc4 (ninS (Ne.symm ne_kl_wl) (ninS ne_wl_ar1 nin0))).ext E12)
  have f23 : Fld Z h12 wl "java/util/ArrayList" "size" "I" (.int n) := (((F_size_wl.ext E2).keep kc4 (ninS (Ne.symm ne_kl_wl) (ninS ne_wl_ar1 nin0))).ext E12)
  have f24 : Fld Z h12 wl "java/util/AbstractList" "modCount" "I" (.int mw) := (((F_modCount_wl.ext E2).keep kc4 (ninS (Ne.symm ne_kl_wl) (ninS ne_wl_ar1 nin0))).ext E12)
  have f25 : Exa Z h12 wl "java/util/ArrayList" := (f19.ext E12)
  have f26 : Arv Z h12 ar2 kr2 (.object "java/lang/Object") (10 : Int32) wvs .null := (f16.ext E12)
  refine g_interface X20 hx hZ hown (hw _ (List.mem_of_getElem? (i := 56) rfl)) (hw _ (List.mem_of_getElem? (i := 57) rfl)) (hw _ (List.mem_of_getElem? (i := 58) rfl)) (hw _ (List.mem_of_getElem? (i := 59) rfl)) (hw _ (List.mem_of_getElem? (i := 60) rfl)) (hw _ (List.mem_of_getElem? (i := 61) rfl)) (hw _ (List.mem_of_getElem? (i := 62) rfl)) (hw _ (List.mem_of_getElem? (i := 63) rfl)) (hw _ (List.mem_of_getElem? (i := 12) rfl)) (hw _ (List.mem_of_getElem? (i := 64) rfl)) (by decide) (a := wl) f25 (rm_addn l Z a0 hw wl mw ar2 kr2 n wvs b12 h12 n0 Z12 f22 f23 f24 f25 g_wl g_ar2 ne_wl_ar2 f26 O_kr2 hn0 hn1 hlw (Ins.of_exa A12 (hw _ (List.mem_of_getElem? (i := 90) rfl)))) (by rw [hml]; rfl) e20 [(.ref b12)] rfl rfl (W := 0) (Nat.le_of_eq rfl) (by decide) (by decide) (by decide) (by decide) (lenOf pd_7 rfl) (hb hby d_prog_17_m_2_28) rfl fun v21 T21 L21 X21 hQ21 => ?_
  obtain ⟨rfl, Nq21, kc21, p21_0, p21_1, p21_2, p21_3, p21_4⟩ := hQ21
  have N21 := Fr.app N4 Nq21
  have kk21 : Keep h0 T21.heap [kl, wl, ar1, ar2] := kk12.trans kc21 (allS (Or.inl (by simp)) (allS (Or.inl (by simp)) all0))
  have Z21 : n0 ≤ T21.heap.size := Nat.le_trans Z12 kc21.1
  show Ga _ _ _ _ _ _ _ _ _ _ _ [(.int (1 : Int32))]
  refine g_pop X21 hx (hb hby d_prog_17_m_2_33) rfl rfl ?_
  refine g_aloadN X21 hx (hb hby d_prog_17_m_2_34) rfl rfl rfl ?_
  have f27 : Exa Z T21.heap kl "java/util/ArrayList" := ((p4_0.ext E12).keep kc21)
  have f28 : Exa Z T21.heap b2 "[B" := ((f17.ext E12).keep kc21)
  have f29 : Arv Z T21.heap b2 kk .byte zk ks (.int (0 : Int32)) := (((V2.keep kc4 (ninS (Ne.symm ne_kl_b2) (ninS (Ne.symm ne_ar1_b2) nin0))).ext E12).keep kc21 (ninS (Ne.symm ne_wl_b2) (ninS (Ne.symm ne_ar2_b2) nin0)))
  have f30 : Exa Z T21.heap b12 "[B" := (A12.keep kc21)
  have f31 : Fld Z T21.heap kl "java/util/ArrayList" "elementData" "[Ljava/lang/Object;" (.ref ar1) := ((p4_1.ext E12).keep kc21 (ninS ne_kl_wl (ninS ne_kl_ar2 nin0)))
  have f32 : Fld Z T21.heap kl "java/util/ArrayList" "size" "I" (.int (n + (1 : Int32))) := ((p4_2.ext E12).keep kc21 (ninS ne_kl_wl (ninS ne_kl_ar2 nin0)))
  have f33 : Fld Z T21.heap kl "java/util/AbstractList" "modCount" "I" (.int (mk + (1 : Int32))) := ((p4_3.ext E12).keep kc21 (ninS ne_kl_wl (ninS ne_kl_ar2 nin0)))
  have f34 : Arv Z T21.heap ar1 kr1 (.object "java/lang/Object") (10 : Int32) (List.set vs (n).toNatClampNeg (.ref b2)) .null := ((p4_4.ext E12).keep kc21 (ninS (Ne.symm ne_wl_ar1) (ninS ne_ar1_ar2 nin0)))
  exact g_retR X21 hx hret hlk rfl rfl rfl (hb hby d_prog_17_m_2_35) (by decide) (by decide) ⟨b2, b12, rfl, N21, kk21, sz_b2, sz_b12, ne_b2_b12, f27, p21_0, f28, f29, f30, f31, f32, f33, p21_1, p21_2, p21_3, f34, p21_4⟩
def Q_ladd0F (Z : State) (a : Addr) (kx : Addr) (kk : ClassId) (zk : Int32) (ks : List Value) (kl : Addr) (wl : Addr) (mk : Int32) (mw : Int32) (d0 : Addr) (kd : ClassId) (vx : Addr) (h0 : Heap) (n0 : Nat) (v : Option Value) (h : Heap) (L : List Loc) : Prop := ∃ (cc1 : Addr) (ar1 : Addr) (kr1 : ClassId) (ar2 : Addr) (kr2 : ClassId), v = none ∧ Fr n0 L ∧ Keep h0 h [kl, wl] ∧ h0.size ≤ cc1 ∧ h0.size ≤ ar1 ∧ h0.size ≤ ar2 ∧ cc1 ≠ ar1 ∧ cc1 ≠ ar2 ∧ ar1 ≠ ar2 ∧ Exa Z h kl "java/util/ArrayList" ∧ Exa Z h wl "java/util/ArrayList" ∧ Exa Z h cc1 "[B" ∧ Arv Z h cc1 kk .byte zk ks (.int (0 : Int32)) ∧ Fld Z h kl "java/util/ArrayList" "elementData" "[Ljava/lang/Object;" (.ref ar1) ∧ Fld Z h kl "java/util/ArrayList" "size" "I" (.int (1 : Int32)) ∧ Fld Z h kl "java/util/AbstractList" "modCount" "I" (.int (mk + (1 : Int32))) ∧ Fld Z h wl "java/util/ArrayList" "elementData" "[Ljava/lang/Object;" (.ref ar2) ∧ Fld Z h wl "java/util/ArrayList" "size" "I" (.int (1 : Int32)) ∧ Fld Z h wl "java/util/AbstractList" "modCount" "I" (.int (mw + (1 : Int32))) ∧ Ovr Z kr1 "java/lang/Object" ∧ Ovr Z kr2 "java/lang/Object" ∧ Arv Z h ar1 kr1 (.object "java/lang/Object") (10 : Int32) [(.ref cc1), .null, .null, .null, .null, .null, .null, .null, .null, .null] .null ∧ Arv Z h ar2 kr2 (.object "java/lang/Object") (10 : Int32) [.null, .null, .null, .null, .null, .null, .null, .null, .null, .null] .null
theorem ef_ladd0F (m : MethodId) (x0 : Addr) (x1 : Addr) (x2 : Addr) (x3 : Int32) : entryFrame m #[(.ref x0), (.ref x1), (.ref x2), (.int x3)] 4 = mkF m 0 #[.val (.ref x0), .val (.ref x1), .val (.ref x2), .val (.int x3)] [] := by first | (simp [entryFrame, mkF, argsToLocals, Value.category]; done) | rfl
set_option maxRecDepth 65536 in
set_option maxHeartbeats 40000000 in
theorem rm_ladd0F (l : Launch) (Z : State) (a0 : Array Value) (hw : ∀ d ∈ tables_1, d.before a0 Z = true) (a : Addr) (kx : Addr) (kk : ClassId) (zk : Int32) (ks : List Value) (kl : Addr) (wl : Addr) (mk : Int32) (mw : Int32) (d0 : Addr) (kd : ClassId) (vx : Addr) (h0 : Heap) (n0 : Nat) (Z0 : n0 ≤ h0.size) (F_keys_a : Fld Z h0 a "com/example/covering/covering/store/Batch" "keys" "Ljava/util/List;" (.ref kl)) (F_values_a : Fld Z h0 a "com/example/covering/covering/store/Batch" "values" "Ljava/util/List;" (.ref wl)) (E_a : Exa Z h0 a "com/example/covering/covering/store/Batch") (E_kl : Exa Z h0 kl "java/util/ArrayList") (E_wl : Exa Z h0 wl "java/util/ArrayList") (g_kl : n0 ≤ kl) (g_wl : n0 ≤ wl) (ne_kl_wl : kl ≠ wl) (ne_a_kl : a ≠ kl) (ne_a_wl : a ≠ wl) (E_kx : Exa Z h0 kx "[B") (V_kx : Arv Z h0 kx kk .byte zk ks (.int (0 : Int32))) (hzk : zk.toNatClampNeg ≤ 2) (F_elementData_kl : Fld Z h0 kl "java/util/ArrayList" "elementData" "[Ljava/lang/Object;" (.ref d0)) (F_size_kl : Fld Z h0 kl "java/util/ArrayList" "size" "I" (.int (0 : Int32))) (F_modCount_kl : Fld Z h0 kl "java/util/AbstractList" "modCount" "I" (.int mk)) (F_elementData_wl : Fld Z h0 wl "java/util/ArrayList" "elementData" "[Ljava/lang/Object;" (.ref d0)) (F_size_wl : Fld Z h0 wl "java/util/ArrayList" "size" "I" (.int (0 : Int32))) (F_modCount_wl : Fld Z h0 wl "java/util/AbstractList" "modCount" "I" (.int mw)) (old0 : Old Z n0 h0) (S0_DEFAULTCAPACITY_EMPTY_ELEMENTDATA : Sta Z Z.heap "java/util/ArrayList" "DEFAULTCAPACITY_EMPTY_ELEMENTDATA" "[Ljava/lang/Object;" (.ref d0)) (V0_d0 : Arv Z Z.heap d0 kd (.object "java/lang/Object") (0 : Int32) [] .null) :
    Ct l Z (⟨"com/example/covering/covering/store/BatchKeyPinLaw", "add", "(Lcom/example/covering/covering/store/Batch;[B[BZ)V"⟩ : MethodName) method_2_code 4 none [] ({ frames := 6, cells := 3, slots := 22, locals := 82 } : Room) #[(.ref a), (.ref kx), (.ref vx), (.int (1 : Int32))] h0 (Q_ladd0F Z a kx kk zk ks kl wl mk mw d0 kd vx h0 n0) := by
  refine own_body (plainFor_of_name pn_6) (fun m => ef_ladd0F m a kx vx (1 : Int32)) ?_
  intro p e s m below meth c T0 hx hby hml hZ hown hnm hret hlk X0 e0
  have N0 := Fr.nil n0
  refine g_iloadN X0 hx (hb hby d_m_2_0) rfl rfl ?_
  refine g_ifN X0 hx (hb hby d_m_2_1) rfl (XT.i0_eq_f (by decide : ¬ (1 : Int32) = (0 : Int32))) ?_
  refine g_aloadN X0 hx (hb hby d_m_2_4) rfl rfl rfl ?_
  refine g_aloadN X0 hx (hb hby d_m_2_5) rfl rfl rfl ?_
  refine g_virtual X0 hx hZ hown (hw _ (List.mem_of_getElem? (i := 42) rfl)) (hw _ (List.mem_of_getElem? (i := 43) rfl)) (notFace_of_selects (args := #[]) (mvT hZ (hw _ (List.mem_of_getElem? (i := 45) rfl)))) (hw _ (List.mem_of_getElem? (i := 45) rfl)) (hw _ (List.mem_of_getElem? (i := 44) rfl)) (hw _ (List.mem_of_getElem? (i := 3) rfl)) (hw _ (List.mem_of_getElem? (i := 46) rfl)) (by decide) (a := a) E_a (rm_deleteF l Z a0 hw a kx kk zk ks kl wl mk mw d0 kd h0 n0 Z0 F_keys_a F_values_a E_a E_kl E_wl g_kl g_wl ne_kl_wl ne_a_kl ne_a_wl E_kx V_kx hzk F_elementData_kl F_size_kl F_modCount_kl F_elementData_wl F_size_wl F_modCount_wl old0 S0_DEFAULTCAPACITY_EMPTY_ELEMENTDATA V0_d0) (by rw [hml]; rfl) e0 [(.ref kx)] rfl rfl (W := 0) (Nat.le_of_eq rfl) (by decide) (by decide) (by decide) (by decide) (lenOf pd_8 rfl) (hb hby d_m_2_6) rfl fun v1 T1 L1 X1 hQ1 => ?_
  obtain ⟨cc1_1, ar1_1, kr1_1, ar2_1, kr2_1, rfl, Nq1, kc1, p1_0, p1_1, p1_2, p1_3, p1_4, p1_5, p1_6, p1_7, p1_8, p1_9, p1_10, p1_11, p1_12, p1_13, p1_14, p1_15, p1_16, p1_17, p1_18, p1_19⟩ := hQ1
  have N1 := Fr.app N0 Nq1
  have ne_a_cc1_1 : a ≠ cc1_1 := own_neK F_keys_a.lt p1_0
  have ne_kl_cc1_1 : kl ≠ cc1_1 := own_neK E_kl.lt p1_0
  have ne_kx_cc1_1 : kx ≠ cc1_1 := own_neK E_kx.lt p1_0
  have ne_wl_cc1_1 : wl ≠ cc1_1 := own_neK E_wl.lt p1_0
  have g_cc1_1 : n0 ≤ cc1_1 := Nat.le_trans Z0 p1_0
  have sz_cc1_1 : h0.size ≤ cc1_1 := Nat.le_trans (Keep.refl h0 [kl, wl]).1 p1_0
  have ne_a_ar1_1 : a ≠ ar1_1 := own_neK F_keys_a.lt p1_1
  have ne_kl_ar1_1 : kl ≠ ar1_1 := own_neK E_kl.lt p1_1
  have ne_kx_ar1_1 : kx ≠ ar1_1 := own_neK E_kx.lt p1_1
  have ne_wl_ar1_1 : wl ≠ ar1_1 := own_neK E_wl.lt p1_1
  have g_ar1_1 : n0 ≤ ar1_1 := Nat.le_trans Z0 p1_1
  have sz_ar1_1 : h0.size ≤ ar1_1 := Nat.le_trans (Keep.refl h0 [kl, wl]).1 p1_1
  have ne_a_ar2_1 : a ≠ ar2_1 := own_neK F_keys_a.lt p1_2
  have ne_kl_ar2_1 : kl ≠ ar2_1 := own_neK E_kl.lt p1_2
  have ne_kx_ar2_1 : kx ≠ ar2_1 := own_neK E_kx.lt p1_2
  have ne_wl_ar2_1 : wl ≠ ar2_1 := own_neK E_wl.lt p1_2
  have g_ar2_1 : n0 ≤ ar2_1 := Nat.le_trans Z0 p1_2
  have sz_ar2_1 : h0.size ≤ ar2_1 := Nat.le_trans (Keep.refl h0 [kl, wl]).1 p1_2
  have kk1 : Keep h0 T1.heap [kl, wl] := (Keep.refl h0 [kl, wl]).trans kc1 (allS (Or.inl (by simp)) (allS (Or.inl (by simp)) all0))
  have Z1 : n0 ≤ T1.heap.size := Nat.le_trans Z0 kc1.1
  have pv1_18 : Arv Z T1.heap ar1_1 kr1_1 (.object "java/lang/Object") (10 : Int32) [(.ref cc1_1), .null, .null, .null, .null, .null, .null, .null, .null, .null] .null := p1_18
  have pv1_19 : Arv Z T1.heap ar2_1 kr2_1 (.object "java/lang/Object") (10 : Int32) [.null, .null, .null, .null, .null, .null, .null, .null, .null, .null] .null := p1_19
  show Ga _ _ _ _ _ _ _ _ _ _ _ [(.ref a)]
  refine g_pop X1 hx (hb hby d_m_2_9) rfl rfl ?_
  refine g_goto X1 hx (q := 20) (hb hby d_m_2_10) (by decide) (by decide) ?_
  exact g_ret X1 hx hret hlk (hb hby d_m_2_20) (by decide) (by decide) ⟨cc1_1, ar1_1, kr1_1, ar2_1, kr2_1, rfl, N1, kk1, sz_cc1_1, sz_ar1_1, sz_ar2_1, p1_3, p1_4, p1_5, p1_6, p1_7, p1_8, p1_9, p1_10, p1_11, p1_12, p1_13, p1_14, p1_15, p1_16, p1_17, pv1_18, pv1_19⟩
def Q_ladd0N (Z : State) (a : Addr) (kx : Addr) (kk : ClassId) (zk : Int32) (ks : List Value) (kl : Addr) (wl : Addr) (mk : Int32) (mw : Int32) (ar1 : Addr) (kr1 : ClassId) (ar2 : Addr) (kr2 : ClassId) (n : Int32) (vs : List Value) (wvs : List Value) (vx : Addr) (h0 : Heap) (n0 : Nat) (v : Option Value) (h : Heap) (L : List Loc) : Prop := ∃ (cc1 : Addr), v = none ∧ Fr n0 L ∧ Keep h0 h [kl, wl, ar1, ar2] ∧ h0.size ≤ cc1 ∧ Exa Z h kl "java/util/ArrayList" ∧ Exa Z h wl "java/util/ArrayList" ∧ Exa Z h cc1 "[B" ∧ Arv Z h cc1 kk .byte zk ks (.int (0 : Int32)) ∧ Fld Z h kl "java/util/ArrayList" "elementData" "[Ljava/lang/Object;" (.ref ar1) ∧ Fld Z h kl "java/util/ArrayList" "size" "I" (.int (n + (1 : Int32))) ∧ Fld Z h kl "java/util/AbstractList" "modCount" "I" (.int (mk + (1 : Int32))) ∧ Fld Z h wl "java/util/ArrayList" "elementData" "[Ljava/lang/Object;" (.ref ar2) ∧ Fld Z h wl "java/util/ArrayList" "size" "I" (.int (n + (1 : Int32))) ∧ Fld Z h wl "java/util/AbstractList" "modCount" "I" (.int (mw + (1 : Int32))) ∧ Arv Z h ar1 kr1 (.object "java/lang/Object") (10 : Int32) (List.set vs (n).toNatClampNeg (.ref cc1)) .null ∧ Arv Z h ar2 kr2 (.object "java/lang/Object") (10 : Int32) (List.set wvs (n).toNatClampNeg .null) .null
theorem ef_ladd0N (m : MethodId) (x0 : Addr) (x1 : Addr) (x2 : Addr) (x3 : Int32) : entryFrame m #[(.ref x0), (.ref x1), (.ref x2), (.int x3)] 4 = mkF m 0 #[.val (.ref x0), .val (.ref x1), .val (.ref x2), .val (.int x3)] [] := by first | (simp [entryFrame, mkF, argsToLocals, Value.category]; done) | rfl
set_option maxRecDepth 65536 in
set_option maxHeartbeats 40000000 in
theorem rm_ladd0N (l : Launch) (Z : State) (a0 : Array Value) (hw : ∀ d ∈ tables_1, d.before a0 Z = true) (a : Addr) (kx : Addr) (kk : ClassId) (zk : Int32) (ks : List Value) (kl : Addr) (wl : Addr) (mk : Int32) (mw : Int32) (ar1 : Addr) (kr1 : ClassId) (ar2 : Addr) (kr2 : ClassId) (n : Int32) (vs : List Value) (wvs : List Value) (vx : Addr) (h0 : Heap) (n0 : Nat) (Z0 : n0 ≤ h0.size) (F_keys_a : Fld Z h0 a "com/example/covering/covering/store/Batch" "keys" "Ljava/util/List;" (.ref kl)) (F_values_a : Fld Z h0 a "com/example/covering/covering/store/Batch" "values" "Ljava/util/List;" (.ref wl)) (E_a : Exa Z h0 a "com/example/covering/covering/store/Batch") (E_kl : Exa Z h0 kl "java/util/ArrayList") (E_wl : Exa Z h0 wl "java/util/ArrayList") (g_kl : n0 ≤ kl) (g_wl : n0 ≤ wl) (ne_kl_wl : kl ≠ wl) (ne_a_kl : a ≠ kl) (ne_a_wl : a ≠ wl) (E_kx : Exa Z h0 kx "[B") (V_kx : Arv Z h0 kx kk .byte zk ks (.int (0 : Int32))) (hzk : zk.toNatClampNeg ≤ 2) (F_elementData_kl : Fld Z h0 kl "java/util/ArrayList" "elementData" "[Ljava/lang/Object;" (.ref ar1)) (F_size_kl : Fld Z h0 kl "java/util/ArrayList" "size" "I" (.int n)) (F_modCount_kl : Fld Z h0 kl "java/util/AbstractList" "modCount" "I" (.int mk)) (F_elementData_wl : Fld Z h0 wl "java/util/ArrayList" "elementData" "[Ljava/lang/Object;" (.ref ar2)) (F_size_wl : Fld Z h0 wl "java/util/ArrayList" "size" "I" (.int n)) (F_modCount_wl : Fld Z h0 wl "java/util/AbstractList" "modCount" "I" (.int mw)) (V_ar1 : Arv Z h0 ar1 kr1 (.object "java/lang/Object") (10 : Int32) vs .null) (V_ar2 : Arv Z h0 ar2 kr2 (.object "java/lang/Object") (10 : Int32) wvs .null) (O_kr1 : Ovr Z kr1 "java/lang/Object") (O_kr2 : Ovr Z kr2 "java/lang/Object") (g_ar1 : n0 ≤ ar1) (g_ar2 : n0 ≤ ar2) (ne_ar1_ar2 : ar1 ≠ ar2) (ne_a_ar1 : a ≠ ar1) (ne_a_ar2 : a ≠ ar2) (ne_kl_ar1 : kl ≠ ar1) (ne_kl_ar2 : kl ≠ ar2) (ne_wl_ar1 : wl ≠ ar1) (ne_wl_ar2 : wl ≠ ar2) (hn0 : ¬ n < (0 : Int32)) (hn1 : n < (10 : Int32)) (hle : vs.length = 10) (hlw : wvs.length = 10) :
    Ct l Z (⟨"com/example/covering/covering/store/BatchKeyPinLaw", "add", "(Lcom/example/covering/covering/store/Batch;[B[BZ)V"⟩ : MethodName) method_2_code 4 none [] ({ frames := 3, cells := 1, slots := 2, locals := 41 } : Room) #[(.ref a), (.ref kx), (.ref vx), (.int (1 : Int32))] h0 (Q_ladd0N Z a kx kk zk ks kl wl mk mw ar1 kr1 ar2 kr2 n vs wvs vx h0 n0) := by
  refine own_body (plainFor_of_name pn_6) (fun m => ef_ladd0N m a kx vx (1 : Int32)) ?_
  intro p e s m below meth c T0 hx hby hml hZ hown hnm hret hlk X0 e0
  have N0 := Fr.nil n0
  refine g_iloadN X0 hx (hb hby d_m_2_0) rfl rfl ?_
  refine g_ifN X0 hx (hb hby d_m_2_1) rfl (XT.i0_eq_f (by decide : ¬ (1 : Int32) = (0 : Int32))) ?_
  refine g_aloadN X0 hx (hb hby d_m_2_4) rfl rfl rfl ?_
  refine g_aloadN X0 hx (hb hby d_m_2_5) rfl rfl rfl ?_
  refine g_virtual X0 hx hZ hown (hw _ (List.mem_of_getElem? (i := 42) rfl)) (hw _ (List.mem_of_getElem? (i := 43) rfl)) (notFace_of_selects (args := #[]) (mvT hZ (hw _ (List.mem_of_getElem? (i := 45) rfl)))) (hw _ (List.mem_of_getElem? (i := 45) rfl)) (hw _ (List.mem_of_getElem? (i := 44) rfl)) (hw _ (List.mem_of_getElem? (i := 3) rfl)) (hw _ (List.mem_of_getElem? (i := 46) rfl)) (by decide) (a := a) E_a (rm_deleteN l Z a0 hw a kx kk zk ks kl wl mk mw ar1 kr1 ar2 kr2 n vs wvs h0 n0 Z0 F_keys_a F_values_a E_a E_kl E_wl g_kl g_wl ne_kl_wl ne_a_kl ne_a_wl E_kx V_kx hzk F_elementData_kl F_size_kl F_modCount_kl F_elementData_wl F_size_wl F_modCount_wl V_ar1 V_ar2 O_kr1 O_kr2 g_ar1 g_ar2 ne_ar1_ar2 ne_a_ar1 ne_a_ar2 ne_kl_ar1 ne_kl_ar2 ne_wl_ar1 ne_wl_ar2 hn0 hn1 hle hlw) (by rw [hml]; rfl) e0 [(.ref kx)] rfl rfl (W := 0) (Nat.le_of_eq rfl) (by decide) (by decide) (by decide) (by decide) (lenOf pd_8 rfl) (hb hby d_m_2_6) rfl fun v1 T1 L1 X1 hQ1 => ?_
  obtain ⟨cc1_1, rfl, Nq1, kc1, p1_0, p1_1, p1_2, p1_3, p1_4, p1_5, p1_6, p1_7, p1_8, p1_9, p1_10, p1_11, p1_12⟩ := hQ1
  have N1 := Fr.app N0 Nq1
  have ne_a_cc1_1 : a ≠ cc1_1 := own_neK F_keys_a.lt p1_0
  have ne_ar1_cc1_1 : ar1 ≠ cc1_1 := own_neK V_ar1.lt p1_0
  have ne_ar2_cc1_1 : ar2 ≠ cc1_1 := own_neK V_ar2.lt p1_0
  have ne_kl_cc1_1 : kl ≠ cc1_1 := own_neK E_kl.lt p1_0
  have ne_kx_cc1_1 : kx ≠ cc1_1 := own_neK E_kx.lt p1_0
  have ne_wl_cc1_1 : wl ≠ cc1_1 := own_neK E_wl.lt p1_0
  have g_cc1_1 : n0 ≤ cc1_1 := Nat.le_trans Z0 p1_0
  have sz_cc1_1 : h0.size ≤ cc1_1 := Nat.le_trans (Keep.refl h0 [kl, wl, ar1, ar2]).1 p1_0
  have kk1 : Keep h0 T1.heap [kl, wl, ar1, ar2] := (Keep.refl h0 [kl, wl, ar1, ar2]).trans kc1 (allS (Or.inl (by simp)) (allS (Or.inl (by simp)) (allS (Or.inl (by simp)) (allS (Or.inl (by simp)) all0))))
  have Z1 : n0 ≤ T1.heap.size := Nat.le_trans Z0 kc1.1
  show Ga _ _ _ _ _ _ _ _ _ _ _ [(.ref a)]
  refine g_pop X1 hx (hb hby d_m_2_9) rfl rfl ?_
  refine g_goto X1 hx (q := 20) (hb hby d_m_2_10) (by decide) (by decide) ?_
  exact g_ret X1 hx hret hlk (hb hby d_m_2_20) (by decide) (by decide) ⟨cc1_1, rfl, N1, kk1, sz_cc1_1, p1_1, p1_2, p1_3, p1_4, p1_5, p1_6, p1_7, p1_8, p1_9, p1_10, p1_11, p1_12⟩
def Q_ladd1F (Z : State) (a : Addr) (kx : Addr) (kk : ClassId) (zk : Int32) (ks : List Value) (kl : Addr) (wl : Addr) (mk : Int32) (mw : Int32) (d0 : Addr) (kd : ClassId) (vx : Addr) (kv : ClassId) (zv : Int32) (us : List Value) (h0 : Heap) (n0 : Nat) (v : Option Value) (h : Heap) (L : List Loc) : Prop := ∃ (cc1 : Addr) (ar1 : Addr) (kr1 : ClassId) (ar2 : Addr) (kr2 : ClassId) (cc2 : Addr), v = none ∧ Fr n0 L ∧ Keep h0 h [kl, wl] ∧ h0.size ≤ cc1 ∧ h0.size ≤ ar1 ∧ h0.size ≤ ar2 ∧ h0.size ≤ cc2 ∧ cc1 ≠ ar1 ∧ cc1 ≠ ar2 ∧ cc1 ≠ cc2 ∧ ar1 ≠ ar2 ∧ ar1 ≠ cc2 ∧ ar2 ≠ cc2 ∧ Exa Z h kl "java/util/ArrayList" ∧ Exa Z h wl "java/util/ArrayList" ∧ Exa Z h cc1 "[B" ∧ Arv Z h cc1 kk .byte zk ks (.int (0 : Int32)) ∧ Exa Z h cc2 "[B" ∧ Fld Z h kl "java/util/ArrayList" "elementData" "[Ljava/lang/Object;" (.ref ar1) ∧ Fld Z h kl "java/util/ArrayList" "size" "I" (.int (1 : Int32)) ∧ Fld Z h kl "java/util/AbstractList" "modCount" "I" (.int (mk + (1 : Int32))) ∧ Fld Z h wl "java/util/ArrayList" "elementData" "[Ljava/lang/Object;" (.ref ar2) ∧ Fld Z h wl "java/util/ArrayList" "size" "I" (.int (1 : Int32)) ∧ Fld Z h wl "java/util/AbstractList" "modCount" "I" (.int (mw + (1 : Int32))) ∧ Ovr Z kr1 "java/lang/Object" ∧ Ovr Z kr2 "java/lang/Object" ∧ Arv Z h ar1 kr1 (.object "java/lang/Object") (10 : Int32) [(.ref cc1), .null, .null, .null, .null, .null, .null, .null, .null, .null] .null ∧ Arv Z h ar2 kr2 (.object "java/lang/Object") (10 : Int32) [(.ref cc2), .null, .null, .null, .null, .null, .null, .null, .null, .null] .null
theorem ef_ladd1F (m : MethodId) (x0 : Addr) (x1 : Addr) (x2 : Addr) (x3 : Int32) : entryFrame m #[(.ref x0), (.ref x1), (.ref x2), (.int x3)] 4 = mkF m 0 #[.val (.ref x0), .val (.ref x1), .val (.ref x2), .val (.int x3)] [] := by first | (simp [entryFrame, mkF, argsToLocals, Value.category]; done) | rfl
set_option maxRecDepth 65536 in
set_option maxHeartbeats 40000000 in
theorem rm_ladd1F (l : Launch) (Z : State) (a0 : Array Value) (hw : ∀ d ∈ tables_1, d.before a0 Z = true) (a : Addr) (kx : Addr) (kk : ClassId) (zk : Int32) (ks : List Value) (kl : Addr) (wl : Addr) (mk : Int32) (mw : Int32) (d0 : Addr) (kd : ClassId) (vx : Addr) (kv : ClassId) (zv : Int32) (us : List Value) (h0 : Heap) (n0 : Nat) (Z0 : n0 ≤ h0.size) (F_keys_a : Fld Z h0 a "com/example/covering/covering/store/Batch" "keys" "Ljava/util/List;" (.ref kl)) (F_values_a : Fld Z h0 a "com/example/covering/covering/store/Batch" "values" "Ljava/util/List;" (.ref wl)) (E_a : Exa Z h0 a "com/example/covering/covering/store/Batch") (E_kl : Exa Z h0 kl "java/util/ArrayList") (E_wl : Exa Z h0 wl "java/util/ArrayList") (g_kl : n0 ≤ kl) (g_wl : n0 ≤ wl) (ne_kl_wl : kl ≠ wl) (ne_a_kl : a ≠ kl) (ne_a_wl : a ≠ wl) (E_kx : Exa Z h0 kx "[B") (V_kx : Arv Z h0 kx kk .byte zk ks (.int (0 : Int32))) (hzk : zk.toNatClampNeg ≤ 2) (F_elementData_kl : Fld Z h0 kl "java/util/ArrayList" "elementData" "[Ljava/lang/Object;" (.ref d0)) (F_size_kl : Fld Z h0 kl "java/util/ArrayList" "size" "I" (.int (0 : Int32))) (F_modCount_kl : Fld Z h0 kl "java/util/AbstractList" "modCount" "I" (.int mk)) (F_elementData_wl : Fld Z h0 wl "java/util/ArrayList" "elementData" "[Ljava/lang/Object;" (.ref d0)) (F_size_wl : Fld Z h0 wl "java/util/ArrayList" "size" "I" (.int (0 : Int32))) (F_modCount_wl : Fld Z h0 wl "java/util/AbstractList" "modCount" "I" (.int mw)) (old0 : Old Z n0 h0) (S0_DEFAULTCAPACITY_EMPTY_ELEMENTDATA : Sta Z Z.heap "java/util/ArrayList" "DEFAULTCAPACITY_EMPTY_ELEMENTDATA" "[Ljava/lang/Object;" (.ref d0)) (V0_d0 : Arv Z Z.heap d0 kd (.object "java/lang/Object") (0 : Int32) [] .null) (E_vx : Exa Z h0 vx "[B") (V_vx : Arv Z h0 vx kv .byte zv us (.int (0 : Int32))) (hzv : zv.toNatClampNeg ≤ 1) (ne_vx_kl : vx ≠ kl) :
    Ct l Z (⟨"com/example/covering/covering/store/BatchKeyPinLaw", "add", "(Lcom/example/covering/covering/store/Batch;[B[BZ)V"⟩ : MethodName) method_2_code 4 none [] ({ frames := 6, cells := 4, slots := 23, locals := 83 } : Room) #[(.ref a), (.ref kx), (.ref vx), (.int (0 : Int32))] h0 (Q_ladd1F Z a kx kk zk ks kl wl mk mw d0 kd vx kv zv us h0 n0) := by
  refine own_body (plainFor_of_name pn_6) (fun m => ef_ladd1F m a kx vx (0 : Int32)) ?_
  intro p e s m below meth c T0 hx hby hml hZ hown hnm hret hlk X0 e0
  have N0 := Fr.nil n0
  refine g_iloadN X0 hx (hb hby d_m_2_0) rfl rfl ?_
  refine g_ifY X0 hx (q := 13) (hb hby d_m_2_1) (XT.i0_eq_t (by decide : (0 : Int32) = (0 : Int32))) (by decide) (by decide) ?_
  refine g_aloadN X0 hx (hb hby d_m_2_13) rfl rfl rfl ?_
  refine g_aloadN X0 hx (hb hby d_m_2_14) rfl rfl rfl ?_
  refine g_aloadN X0 hx (hb hby d_m_2_15) rfl rfl rfl ?_
  refine g_virtual X0 hx hZ hown (hw _ (List.mem_of_getElem? (i := 91) rfl)) (hw _ (List.mem_of_getElem? (i := 92) rfl)) (notFace_of_selects (args := #[]) (mvT hZ (hw _ (List.mem_of_getElem? (i := 94) rfl)))) (hw _ (List.mem_of_getElem? (i := 94) rfl)) (hw _ (List.mem_of_getElem? (i := 93) rfl)) (hw _ (List.mem_of_getElem? (i := 3) rfl)) (hw _ (List.mem_of_getElem? (i := 95) rfl)) (by decide) (a := a) E_a (rm_putF l Z a0 hw a kx kk zk ks kl wl mk mw d0 kd vx kv zv us h0 n0 Z0 F_keys_a F_values_a E_a E_kl E_wl g_kl g_wl ne_kl_wl ne_a_kl ne_a_wl E_kx V_kx hzk F_elementData_kl F_size_kl F_modCount_kl F_elementData_wl F_size_wl F_modCount_wl old0 S0_DEFAULTCAPACITY_EMPTY_ELEMENTDATA V0_d0 E_vx V_vx hzv ne_vx_kl) (by rw [hml]; rfl) e0 [(.ref kx), (.ref vx)] rfl rfl (W := 0) (Nat.le_of_eq rfl) (by decide) (by decide) (by decide) (by decide) (lenOf pd_9 rfl) (hb hby d_m_2_16) rfl fun v1 T1 L1 X1 hQ1 => ?_
  obtain ⟨cc1_1, ar1_1, kr1_1, ar2_1, kr2_1, cc2_1, rfl, Nq1, kc1, p1_0, p1_1, p1_2, p1_3, p1_4, p1_5, p1_6, p1_7, p1_8, p1_9, p1_10, p1_11, p1_12, p1_13, p1_14, p1_15, p1_16, p1_17, p1_18, p1_19, p1_20, p1_21, p1_22, p1_23, p1_24⟩ := hQ1
  have N1 := Fr.app N0 Nq1
  have ne_a_cc1_1 : a ≠ cc1_1 := own_neK F_keys_a.lt p1_0
  have ne_kl_cc1_1 : kl ≠ cc1_1 := own_neK E_kl.lt p1_0
  have ne_kx_cc1_1 : kx ≠ cc1_1 := own_neK E_kx.lt p1_0
  have ne_vx_cc1_1 : vx ≠ cc1_1 := own_neK E_vx.lt p1_0
  have ne_wl_cc1_1 : wl ≠ cc1_1 := own_neK E_wl.lt p1_0
  have g_cc1_1 : n0 ≤ cc1_1 := Nat.le_trans Z0 p1_0
  have sz_cc1_1 : h0.size ≤ cc1_1 := Nat.le_trans (Keep.refl h0 [kl, wl]).1 p1_0
  have ne_a_ar1_1 : a ≠ ar1_1 := own_neK F_keys_a.lt p1_1
  have ne_kl_ar1_1 : kl ≠ ar1_1 := own_neK E_kl.lt p1_1
  have ne_kx_ar1_1 : kx ≠ ar1_1 := own_neK E_kx.lt p1_1
  have ne_vx_ar1_1 : vx ≠ ar1_1 := own_neK E_vx.lt p1_1
  have ne_wl_ar1_1 : wl ≠ ar1_1 := own_neK E_wl.lt p1_1
  have g_ar1_1 : n0 ≤ ar1_1 := Nat.le_trans Z0 p1_1
  have sz_ar1_1 : h0.size ≤ ar1_1 := Nat.le_trans (Keep.refl h0 [kl, wl]).1 p1_1
  have ne_a_ar2_1 : a ≠ ar2_1 := own_neK F_keys_a.lt p1_2
  have ne_kl_ar2_1 : kl ≠ ar2_1 := own_neK E_kl.lt p1_2
  have ne_kx_ar2_1 : kx ≠ ar2_1 := own_neK E_kx.lt p1_2
  have ne_vx_ar2_1 : vx ≠ ar2_1 := own_neK E_vx.lt p1_2
  have ne_wl_ar2_1 : wl ≠ ar2_1 := own_neK E_wl.lt p1_2
  have g_ar2_1 : n0 ≤ ar2_1 := Nat.le_trans Z0 p1_2
  have sz_ar2_1 : h0.size ≤ ar2_1 := Nat.le_trans (Keep.refl h0 [kl, wl]).1 p1_2
  have ne_a_cc2_1 : a ≠ cc2_1 := own_neK F_keys_a.lt p1_3
  have ne_kl_cc2_1 : kl ≠ cc2_1 := own_neK E_kl.lt p1_3
  have ne_kx_cc2_1 : kx ≠ cc2_1 := own_neK E_kx.lt p1_3
  have ne_vx_cc2_1 : vx ≠ cc2_1 := own_neK E_vx.lt p1_3
  have ne_wl_cc2_1 : wl ≠ cc2_1 := own_neK E_wl.lt p1_3
  have g_cc2_1 : n0 ≤ cc2_1 := Nat.le_trans Z0 p1_3
  have sz_cc2_1 : h0.size ≤ cc2_1 := Nat.le_trans (Keep.refl h0 [kl, wl]).1 p1_3
  have kk1 : Keep h0 T1.heap [kl, wl] := (Keep.refl h0 [kl, wl]).trans kc1 (allS (Or.inl (by simp)) (allS (Or.inl (by simp)) all0))
  have Z1 : n0 ≤ T1.heap.size := Nat.le_trans Z0 kc1.1
  have pv1_23 : Arv Z T1.heap ar1_1 kr1_1 (.object "java/lang/Object") (10 : Int32) [(.ref cc1_1), .null, .null, .null, .null, .null, .null, .null, .null, .null] .null := p1_23
  have pv1_24 : Arv Z T1.heap ar2_1 kr2_1 (.object "java/lang/Object") (10 : Int32) [(.ref cc2_1), .null, .null, .null, .null, .null, .null, .null, .null, .null] .null := p1_24
  show Ga _ _ _ _ _ _ _ _ _ _ _ [(.ref a)]
  refine g_pop X1 hx (hb hby d_m_2_19) rfl rfl ?_
  exact g_ret X1 hx hret hlk (hb hby d_m_2_20) (by decide) (by decide) ⟨cc1_1, ar1_1, kr1_1, ar2_1, kr2_1, cc2_1, rfl, N1, kk1, sz_cc1_1, sz_ar1_1, sz_ar2_1, sz_cc2_1, p1_4, p1_5, p1_6, p1_7, p1_8, p1_9, p1_10, p1_11, p1_12, p1_13, p1_14, p1_15, p1_16, p1_17, p1_18, p1_19, p1_20, p1_21, p1_22, pv1_23, pv1_24⟩
def Q_ladd1N (Z : State) (a : Addr) (kx : Addr) (kk : ClassId) (zk : Int32) (ks : List Value) (kl : Addr) (wl : Addr) (mk : Int32) (mw : Int32) (ar1 : Addr) (kr1 : ClassId) (ar2 : Addr) (kr2 : ClassId) (n : Int32) (vs : List Value) (wvs : List Value) (vx : Addr) (kv : ClassId) (zv : Int32) (us : List Value) (h0 : Heap) (n0 : Nat) (v : Option Value) (h : Heap) (L : List Loc) : Prop := ∃ (cc1 : Addr) (cc2 : Addr), v = none ∧ Fr n0 L ∧ Keep h0 h [kl, wl, ar1, ar2] ∧ h0.size ≤ cc1 ∧ h0.size ≤ cc2 ∧ cc1 ≠ cc2 ∧ Exa Z h kl "java/util/ArrayList" ∧ Exa Z h wl "java/util/ArrayList" ∧ Exa Z h cc1 "[B" ∧ Arv Z h cc1 kk .byte zk ks (.int (0 : Int32)) ∧ Exa Z h cc2 "[B" ∧ Fld Z h kl "java/util/ArrayList" "elementData" "[Ljava/lang/Object;" (.ref ar1) ∧ Fld Z h kl "java/util/ArrayList" "size" "I" (.int (n + (1 : Int32))) ∧ Fld Z h kl "java/util/AbstractList" "modCount" "I" (.int (mk + (1 : Int32))) ∧ Fld Z h wl "java/util/ArrayList" "elementData" "[Ljava/lang/Object;" (.ref ar2) ∧ Fld Z h wl "java/util/ArrayList" "size" "I" (.int (n + (1 : Int32))) ∧ Fld Z h wl "java/util/AbstractList" "modCount" "I" (.int (mw + (1 : Int32))) ∧ Arv Z h ar1 kr1 (.object "java/lang/Object") (10 : Int32) (List.set vs (n).toNatClampNeg (.ref cc1)) .null ∧ Arv Z h ar2 kr2 (.object "java/lang/Object") (10 : Int32) (List.set wvs (n).toNatClampNeg (.ref cc2)) .null
theorem ef_ladd1N (m : MethodId) (x0 : Addr) (x1 : Addr) (x2 : Addr) (x3 : Int32) : entryFrame m #[(.ref x0), (.ref x1), (.ref x2), (.int x3)] 4 = mkF m 0 #[.val (.ref x0), .val (.ref x1), .val (.ref x2), .val (.int x3)] [] := by first | (simp [entryFrame, mkF, argsToLocals, Value.category]; done) | rfl
set_option maxRecDepth 65536 in
set_option maxHeartbeats 40000000 in
theorem rm_ladd1N (l : Launch) (Z : State) (a0 : Array Value) (hw : ∀ d ∈ tables_1, d.before a0 Z = true) (a : Addr) (kx : Addr) (kk : ClassId) (zk : Int32) (ks : List Value) (kl : Addr) (wl : Addr) (mk : Int32) (mw : Int32) (ar1 : Addr) (kr1 : ClassId) (ar2 : Addr) (kr2 : ClassId) (n : Int32) (vs : List Value) (wvs : List Value) (vx : Addr) (kv : ClassId) (zv : Int32) (us : List Value) (h0 : Heap) (n0 : Nat) (Z0 : n0 ≤ h0.size) (F_keys_a : Fld Z h0 a "com/example/covering/covering/store/Batch" "keys" "Ljava/util/List;" (.ref kl)) (F_values_a : Fld Z h0 a "com/example/covering/covering/store/Batch" "values" "Ljava/util/List;" (.ref wl)) (E_a : Exa Z h0 a "com/example/covering/covering/store/Batch") (E_kl : Exa Z h0 kl "java/util/ArrayList") (E_wl : Exa Z h0 wl "java/util/ArrayList") (g_kl : n0 ≤ kl) (g_wl : n0 ≤ wl) (ne_kl_wl : kl ≠ wl) (ne_a_kl : a ≠ kl) (ne_a_wl : a ≠ wl) (E_kx : Exa Z h0 kx "[B") (V_kx : Arv Z h0 kx kk .byte zk ks (.int (0 : Int32))) (hzk : zk.toNatClampNeg ≤ 2) (F_elementData_kl : Fld Z h0 kl "java/util/ArrayList" "elementData" "[Ljava/lang/Object;" (.ref ar1)) (F_size_kl : Fld Z h0 kl "java/util/ArrayList" "size" "I" (.int n)) (F_modCount_kl : Fld Z h0 kl "java/util/AbstractList" "modCount" "I" (.int mk)) (F_elementData_wl : Fld Z h0 wl "java/util/ArrayList" "elementData" "[Ljava/lang/Object;" (.ref ar2)) (F_size_wl : Fld Z h0 wl "java/util/ArrayList" "size" "I" (.int n)) (F_modCount_wl : Fld Z h0 wl "java/util/AbstractList" "modCount" "I" (.int mw)) (V_ar1 : Arv Z h0 ar1 kr1 (.object "java/lang/Object") (10 : Int32) vs .null) (V_ar2 : Arv Z h0 ar2 kr2 (.object "java/lang/Object") (10 : Int32) wvs .null) (O_kr1 : Ovr Z kr1 "java/lang/Object") (O_kr2 : Ovr Z kr2 "java/lang/Object") (g_ar1 : n0 ≤ ar1) (g_ar2 : n0 ≤ ar2) (ne_ar1_ar2 : ar1 ≠ ar2) (ne_a_ar1 : a ≠ ar1) (ne_a_ar2 : a ≠ ar2) (ne_kl_ar1 : kl ≠ ar1) (ne_kl_ar2 : kl ≠ ar2) (ne_wl_ar1 : wl ≠ ar1) (ne_wl_ar2 : wl ≠ ar2) (hn0 : ¬ n < (0 : Int32)) (hn1 : n < (10 : Int32)) (hle : vs.length = 10) (hlw : wvs.length = 10) (ne_vx_kl : vx ≠ kl) (ne_vx_ar1 : vx ≠ ar1) (E_vx : Exa Z h0 vx "[B") (V_vx : Arv Z h0 vx kv .byte zv us (.int (0 : Int32))) (hzv : zv.toNatClampNeg ≤ 1) :
    Ct l Z (⟨"com/example/covering/covering/store/BatchKeyPinLaw", "add", "(Lcom/example/covering/covering/store/Batch;[B[BZ)V"⟩ : MethodName) method_2_code 4 none [] ({ frames := 3, cells := 2, slots := 3, locals := 42 } : Room) #[(.ref a), (.ref kx), (.ref vx), (.int (0 : Int32))] h0 (Q_ladd1N Z a kx kk zk ks kl wl mk mw ar1 kr1 ar2 kr2 n vs wvs vx kv zv us h0 n0) := by
  refine own_body (plainFor_of_name pn_6) (fun m => ef_ladd1N m a kx vx (0 : Int32)) ?_
  intro p e s m below meth c T0 hx hby hml hZ hown hnm hret hlk X0 e0
  have N0 := Fr.nil n0
  refine g_iloadN X0 hx (hb hby d_m_2_0) rfl rfl ?_
  refine g_ifY X0 hx (q := 13) (hb hby d_m_2_1) (XT.i0_eq_t (by decide : (0 : Int32) = (0 : Int32))) (by decide) (by decide) ?_
  refine g_aloadN X0 hx (hb hby d_m_2_13) rfl rfl rfl ?_
  refine g_aloadN X0 hx (hb hby d_m_2_14) rfl rfl rfl ?_
  refine g_aloadN X0 hx (hb hby d_m_2_15) rfl rfl rfl ?_
  refine g_virtual X0 hx hZ hown (hw _ (List.mem_of_getElem? (i := 91) rfl)) (hw _ (List.mem_of_getElem? (i := 92) rfl)) (notFace_of_selects (args := #[]) (mvT hZ (hw _ (List.mem_of_getElem? (i := 94) rfl)))) (hw _ (List.mem_of_getElem? (i := 94) rfl)) (hw _ (List.mem_of_getElem? (i := 93) rfl)) (hw _ (List.mem_of_getElem? (i := 3) rfl)) (hw _ (List.mem_of_getElem? (i := 95) rfl)) (by decide) (a := a) E_a (rm_putN l Z a0 hw a kx kk zk ks kl wl mk mw ar1 kr1 ar2 kr2 n vs wvs vx kv zv us h0 n0 Z0 F_keys_a F_values_a E_a E_kl E_wl g_kl g_wl ne_kl_wl ne_a_kl ne_a_wl E_kx V_kx hzk F_elementData_kl F_size_kl F_modCount_kl F_elementData_wl F_size_wl F_modCount_wl V_ar1 V_ar2 O_kr1 O_kr2 g_ar1 g_ar2 ne_ar1_ar2 ne_a_ar1 ne_a_ar2 ne_kl_ar1 ne_kl_ar2 ne_wl_ar1 ne_wl_ar2 hn0 hn1 hle hlw ne_vx_kl ne_vx_ar1 E_vx V_vx hzv) (by rw [hml]; rfl) e0 [(.ref kx), (.ref vx)] rfl rfl (W := 0) (Nat.le_of_eq rfl) (by decide) (by decide) (by decide) (by decide) (lenOf pd_9 rfl) (hb hby d_m_2_16) rfl fun v1 T1 L1 X1 hQ1 => ?_
  obtain ⟨cc1_1, cc2_1, rfl, Nq1, kc1, p1_0, p1_1, p1_2, p1_3, p1_4, p1_5, p1_6, p1_7, p1_8, p1_9, p1_10, p1_11, p1_12, p1_13, p1_14, p1_15⟩ := hQ1
  have N1 := Fr.app N0 Nq1
  have ne_a_cc1_1 : a ≠ cc1_1 := own_neK F_keys_a.lt p1_0
  have ne_ar1_cc1_1 : ar1 ≠ cc1_1 := own_neK V_ar1.lt p1_0
  have ne_ar2_cc1_1 : ar2 ≠ cc1_1 := own_neK V_ar2.lt p1_0
  have ne_kl_cc1_1 : kl ≠ cc1_1 := own_neK E_kl.lt p1_0
  have ne_kx_cc1_1 : kx ≠ cc1_1 := own_neK E_kx.lt p1_0
  have ne_vx_cc1_1 : vx ≠ cc1_1 := own_neK E_vx.lt p1_0
  have ne_wl_cc1_1 : wl ≠ cc1_1 := own_neK E_wl.lt p1_0
  have g_cc1_1 : n0 ≤ cc1_1 := Nat.le_trans Z0 p1_0
  have sz_cc1_1 : h0.size ≤ cc1_1 := Nat.le_trans (Keep.refl h0 [kl, wl, ar1, ar2]).1 p1_0
  have ne_a_cc2_1 : a ≠ cc2_1 := own_neK F_keys_a.lt p1_1
  have ne_ar1_cc2_1 : ar1 ≠ cc2_1 := own_neK V_ar1.lt p1_1
  have ne_ar2_cc2_1 : ar2 ≠ cc2_1 := own_neK V_ar2.lt p1_1
  have ne_kl_cc2_1 : kl ≠ cc2_1 := own_neK E_kl.lt p1_1
  have ne_kx_cc2_1 : kx ≠ cc2_1 := own_neK E_kx.lt p1_1
  have ne_vx_cc2_1 : vx ≠ cc2_1 := own_neK E_vx.lt p1_1
  have ne_wl_cc2_1 : wl ≠ cc2_1 := own_neK E_wl.lt p1_1
  have g_cc2_1 : n0 ≤ cc2_1 := Nat.le_trans Z0 p1_1
  have sz_cc2_1 : h0.size ≤ cc2_1 := Nat.le_trans (Keep.refl h0 [kl, wl, ar1, ar2]).1 p1_1
  have kk1 : Keep h0 T1.heap [kl, wl, ar1, ar2] := (Keep.refl h0 [kl, wl, ar1, ar2]).trans kc1 (allS (Or.inl (by simp)) (allS (Or.inl (by simp)) (allS (Or.inl (by simp)) (allS (Or.inl (by simp)) all0))))
  have Z1 : n0 ≤ T1.heap.size := Nat.le_trans Z0 kc1.1
  show Ga _ _ _ _ _ _ _ _ _ _ _ [(.ref a)]
  refine g_pop X1 hx (hb hby d_m_2_19) rfl rfl ?_
  exact g_ret X1 hx hret hlk (hb hby d_m_2_20) (by decide) (by decide) ⟨cc1_1, cc2_1, rfl, N1, kk1, sz_cc1_1, sz_cc2_1, p1_2, p1_3, p1_4, p1_5, p1_6, p1_7, p1_8, p1_9, p1_10, p1_11, p1_12, p1_13, p1_14, p1_15⟩
def Q_key (Z : State) (q : Addr) (a : Addr) (b : Addr) (kb : ClassId) (n : Int32) (vs : List Value) (i : Int32) (r : Addr) (h0 : Heap) (n0 : Nat) (v : Option Value) (h : Heap) (L : List Loc) : Prop := v = some (.ref r) ∧ Fr n0 L ∧ h = h0
theorem ef_key (m : MethodId) (x0 : Addr) (x1 : Int32) : entryFrame m #[(.ref x0), (.int x1)] 2 = mkF m 0 #[.val (.ref x0), .val (.int x1)] [] := by first | (simp [entryFrame, mkF, argsToLocals, Value.category]; done) | rfl
set_option maxRecDepth 65536 in
set_option maxHeartbeats 40000000 in
theorem rm_key (l : Launch) (Z : State) (a0 : Array Value) (hw : ∀ d ∈ tables_1, d.before a0 Z = true) (q : Addr) (a : Addr) (b : Addr) (kb : ClassId) (n : Int32) (vs : List Value) (i : Int32) (r : Addr) (h0 : Heap) (n0 : Nat) (Z0 : n0 ≤ h0.size) (F_keys_q : Fld Z h0 q "com/example/covering/covering/store/Batch" "keys" "Ljava/util/List;" (.ref a)) (F_size_a : Fld Z h0 a "java/util/ArrayList" "size" "I" (.int n)) (F_elementData_a : Fld Z h0 a "java/util/ArrayList" "elementData" "[Ljava/lang/Object;" (.ref b)) (V_b : Arv Z h0 b kb (.object "java/lang/Object") (10 : Int32) vs .null) (E_a : Exa Z h0 a "java/util/ArrayList") (hi0 : ¬ i < (0 : Int32)) (hi1 : i < n) (hi2 : i < (10 : Int32)) (hvr : vs.getD i.toNatClampNeg .null = .ref r) (I_r_9 : Ins Z h0 r "[B" true) :
    Ct l Z (⟨"com/example/covering/covering/store/Batch", "key", "(I)[B"⟩ : MethodName) prog_17_method_5_code 2 (some (.array .byte)) [] ({ frames := 3, cells := 0, slots := 0, locals := 40 } : Room) #[(.ref q), (.int i)] h0 (Q_key Z q a b kb n vs i r h0 n0) := by
  refine own_body (plainFor_of_name pn_5) (fun m => ef_key m q i) ?_
  intro p e s m below meth c T0 hx hby hml hZ hown hnm hret hlk X0 e0
  have N0 := Fr.nil n0
  refine g_aloadN X0 hx (hb hby d_prog_17_m_5_0) rfl rfl rfl ?_
  refine g_getF X0 hx hZ hown (host := "") (Or.inl (hw _ (List.mem_of_getElem? (i := 34) rfl))) Via.refl e0 F_keys_q (hb hby d_prog_17_m_5_1) rfl fun T1 X1 e1 => ?_
  refine g_iloadN X1 hx (hb hby d_prog_17_m_5_4) rfl rfl ?_
  refine g_interface X1 hx hZ hown (hw _ (List.mem_of_getElem? (i := 101) rfl)) (hw _ (List.mem_of_getElem? (i := 102) rfl)) (hw _ (List.mem_of_getElem? (i := 103) rfl)) (hw _ (List.mem_of_getElem? (i := 104) rfl)) (hw _ (List.mem_of_getElem? (i := 105) rfl)) (hw _ (List.mem_of_getElem? (i := 106) rfl)) (hw _ (List.mem_of_getElem? (i := 107) rfl)) (hw _ (List.mem_of_getElem? (i := 63) rfl)) (hw _ (List.mem_of_getElem? (i := 12) rfl)) (hw _ (List.mem_of_getElem? (i := 108) rfl)) (by decide) (a := a) E_a (rm_alget l Z a0 hw a b kb n vs i r h0 n0 Z0 F_size_a F_elementData_a V_b E_a hi0 hi1 hi2 hvr) (by rw [hml]; rfl) e1 [(.int i)] rfl rfl (W := 0) (Nat.le_of_eq rfl) (by decide) (by decide) (by decide) (by decide) (lenOf pd_6 rfl) (hb hby d_prog_17_m_5_5) rfl fun v2 T2 L2 X2 hQ2 => ?_
  obtain ⟨rfl, Nq2, eh2⟩ := hQ2
  have N2 := Fr.app N0 Nq2
  show Ga _ _ _ _ _ _ _ _ _ _ _ [(.ref r)]
  refine g_cast X2 hx hZ hown (hw _ (List.mem_of_getElem? (i := 54) rfl)) eh2 I_r_9 (hb hby d_prog_17_m_5_10) rfl fun T3 X3 e3 => ?_
  exact g_retR X3 hx hret hlk rfl rfl rfl (hb hby d_prog_17_m_5_13) (by decide) (by decide) (by rw [e3]; exact ⟨rfl, N2, rfl⟩)
def Q_law (Z : State) (p0 : Int32) (p1 : Int32) (p2 : Int32) (p3 : Int32) (d0 : Addr) (kd : ClassId) (h0 : Heap) (n0 : Nat) (v : Option Value) (h : Heap) (L : List Loc) : Prop := v = some (.int 1) ∧ Fr n0 L
theorem ef_law (m : MethodId) (x0 : Int32) (x1 : Int32) (x2 : Int32) (x3 : Int32) : entryFrame m #[(.int x0), (.int x1), (.int x2), (.int x3)] maxLocals = mkF m 0 #[.val (.int x0), .val (.int x1), .val (.int x2), .val (.int x3), .unset, .unset, .unset, .unset, .unset, .unset, .unset, .unset, .unset, .unset, .unset] [] := by first | (simp [entryFrame, mkF, argsToLocals, Value.category, maxLocals]; done) | rfl
set_option maxRecDepth 65536 in
set_option maxHeartbeats 40000000 in
theorem rm_law (l : Launch) (Z : State) (a0 : Array Value) (hw : ∀ d ∈ tables_1, d.before a0 Z = true) (ws : List Jvm.Cond) (p0 : Int32) (p1 : Int32) (p2 : Int32) (p3 : Int32) (d0 : Addr) (kd : ClassId) (h0 : Heap) (n0 : Nat) (Z0 : n0 ≤ h0.size) (old0 : Old Z n0 h0) (S0_DEFAULTCAPACITY_EMPTY_ELEMENTDATA : Sta Z Z.heap "java/util/ArrayList" "DEFAULTCAPACITY_EMPTY_ELEMENTDATA" "[Ljava/lang/Object;" (.ref d0)) (V0_d0 : Arv Z Z.heap d0 kd (.object "java/lang/Object") (0 : Int32) [] .null) :
    Ct l Z x code maxLocals ret ws room_1 #[(.int p0), (.int p1), (.int p2), (.int p3)] h0 (Q_law Z p0 p1 p2 p3 d0 kd h0 n0) := by
  refine own_body (plainFor_of_name pn_6) (fun m => ef_law m p0 p1 p2 p3) ?_
  intro p e s m below meth c T0 hx hby hml hZ hown hnm hret hlk X0 e0
  have N0 := Fr.nil n0
  refine g_iloadN X0 hx (hb hby at_0) rfl rfl ?_
  refine g_i2b X0 hx (hb hby at_1) rfl rfl ?_
  refine g_istore X0 hx (Ls' := #[.val (.int p0), .val (.int p1), .val (.int p2), .val (.int p3), .val (.int (p0.toInt8.toInt32)), .unset, .unset, .unset, .unset, .unset, .unset, .unset, .unset, .unset, .unset]) (hb hby at_2) rfl rfl ?_
  refine g_iloadN X0 hx (hb hby at_4) rfl rfl ?_
  refine g_bipush X0 hx (r := (8 : Int32)) (hb hby at_5) rfl rfl ?_
  refine g_iushr X0 hx (hb hby at_7) rfl rfl ?_
  refine g_i2b X0 hx (hb hby at_8) rfl rfl ?_
  refine g_istore X0 hx (Ls' := #[.val (.int p0), .val (.int p1), .val (.int p2), .val (.int p3), .val (.int (p0.toInt8.toInt32)), .val (.int (((p0.toUInt32 >>> ((8 : Int32) &&& 31).toUInt32).toInt32).toInt8.toInt32)), .unset, .unset, .unset, .unset, .unset, .unset, .unset, .unset, .unset]) (hb hby at_9) rfl rfl ?_
  refine g_iloadN X0 hx (hb hby at_11) rfl rfl ?_
  refine g_i2b X0 hx (hb hby at_12) rfl rfl ?_
  refine g_istore X0 hx (Ls' := #[.val (.int p0), .val (.int p1), .val (.int p2), .val (.int p3), .val (.int (p0.toInt8.toInt32)), .val (.int (((p0.toUInt32 >>> ((8 : Int32) &&& 31).toUInt32).toInt32).toInt8.toInt32)), .val (.int (p1.toInt8.toInt32)), .unset, .unset, .unset, .unset, .unset, .unset, .unset, .unset]) (hb hby at_13) rfl rfl ?_
  refine g_iconst X0 hx (r := (2 : Int32)) (hb hby at_15) rfl rfl ?_
  refine g_newarray X0 hx hZ (aty := .byte) (hw _ (List.mem_of_getElem? (i := 0) rfl)) e0 (by decide) 2 (by decide) (by decide) (by decide) (by decide) (ad := "[B") (by decide) (hb hby at_16) rfl fun T1 h1 b1 ka1 X1 e1 q1 E1 A1 V1 => ?_
  have g_b1 : n0 ≤ b1 := Nat.le_trans Z0 (Nat.le_of_eq q1.symm)
  have Z1 : n0 ≤ h1.size := Nat.le_trans Z0 E1.1
  have Vn1 : Arv Z h1 b1 ka1 .byte (2 : Int32) [(.int (0 : Int32)), (.int (0 : Int32))] (.int (0 : Int32)) := V1
  refine g_astore X1 hx (Ls' := #[.val (.int p0), .val (.int p1), .val (.int p2), .val (.int p3), .val (.int (p0.toInt8.toInt32)), .val (.int (((p0.toUInt32 >>> ((8 : Int32) &&& 31).toUInt32).toInt32).toInt8.toInt32)), .val (.int (p1.toInt8.toInt32)), .val (.ref b1), .unset, .unset, .unset, .unset, .unset, .unset, .unset]) (hb hby at_18) rfl rfl rfl ?_
  refine g_aload X1 hx (hb hby at_20) rfl rfl rfl ?_
  refine g_iconst X1 hx (r := (0 : Int32)) (hb hby at_22) rfl rfl ?_
  refine g_iload X1 hx (hb hby at_23) rfl rfl ?_
  refine g_bastore X1 hx hZ e1 Vn1 ⟨by decide, by decide⟩ (Nat.le_of_ble_eq_true rfl) (hb hby at_25) rfl fun T2 h2 X2 e2 W2 V2 => ?_
  rw [own_nar, own_bb] at V2
  have Vn2 : Arv Z h2 b1 ka1 .byte (2 : Int32) [(.int (p0.toInt8.toInt32)), (.int (0 : Int32))] (.int (0 : Int32)) := V2
  have N2 := Fr.snoc X2 N0 g_b1
  have Z2 : n0 ≤ h2.size := by rw [W2.size]; exact Z1
  refine g_aload X2 hx (hb hby at_26) rfl rfl rfl ?_
  refine g_iconst X2 hx (r := (1 : Int32)) (hb hby at_28) rfl rfl ?_
  refine g_iload X2 hx (hb hby at_29) rfl rfl ?_
  refine g_bastore X2 hx hZ e2 Vn2 ⟨by decide, by decide⟩ (Nat.le_of_ble_eq_true rfl) (hb hby at_31) rfl fun T3 h3 X3 e3 W3 V3 => ?_
  rw [own_nar, own_bb] at V3
  have Vn3 : Arv Z h3 b1 ka1 .byte (2 : Int32) [(.int (p0.toInt8.toInt32)), (.int (((p0.toUInt32 >>> ((8 : Int32) &&& 31).toUInt32).toInt32).toInt8.toInt32))] (.int (0 : Int32)) := V3
  have N3 := Fr.snoc X3 N2 g_b1
  have Z3 : n0 ≤ h3.size := by rw [W3.size]; exact Z2
  refine g_iconst X3 hx (r := (1 : Int32)) (hb hby at_32) rfl rfl ?_
  refine g_newarray X3 hx hZ (aty := .byte) (hw _ (List.mem_of_getElem? (i := 0) rfl)) e3 (by decide) 1 (by decide) (by decide) (by decide) (by decide) (ad := "[B") (by decide) (hb hby at_33) rfl fun T4 h4 b4 ka4 X4 e4 q4 E4 A4 V4 => ?_
  have ne_b1_b4 : b1 ≠ b4 := own_ne Vn3.lt q4
  have g_b4 : n0 ≤ b4 := Nat.le_trans Z3 (Nat.le_of_eq q4.symm)
  have Z4 : n0 ≤ h4.size := Nat.le_trans Z3 E4.1
  have Vn4 : Arv Z h4 b4 ka4 .byte (1 : Int32) [(.int (0 : Int32))] (.int (0 : Int32)) := V4
  refine g_astore X4 hx (Ls' := #[.val (.int p0), .val (.int p1), .val (.int p2), .val (.int p3), .val (.int (p0.toInt8.toInt32)), .val (.int (((p0.toUInt32 >>> ((8 : Int32) &&& 31).toUInt32).toInt32).toInt8.toInt32)), .val (.int (p1.toInt8.toInt32)), .val (.ref b1), .val (.ref b4), .unset, .unset, .unset, .unset, .unset, .unset]) (hb hby at_35) rfl rfl rfl ?_
  refine g_aload X4 hx (hb hby at_37) rfl rfl rfl ?_
  refine g_iconst X4 hx (r := (0 : Int32)) (hb hby at_39) rfl rfl ?_
  refine g_iload X4 hx (hb hby at_40) rfl rfl ?_
  refine g_bastore X4 hx hZ e4 Vn4 ⟨by decide, by decide⟩ (Nat.le_of_ble_eq_true rfl) (hb hby at_42) rfl fun T5 h5 X5 e5 W5 V5 => ?_
  rw [own_nar, own_bb] at V5
  have Vn5 : Arv Z h5 b4 ka4 .byte (1 : Int32) [(.int (p1.toInt8.toInt32))] (.int (0 : Int32)) := V5
  have N5 := Fr.snoc X5 N3 g_b4
  have Z5 : n0 ≤ h5.size := by rw [W5.size]; exact Z4
  refine g_iconst X5 hx (r := (0 : Int32)) (hb hby at_43) rfl rfl ?_
  have f7 : Arv Z h5 b1 ka1 .byte (2 : Int32) [(.int (p0.toInt8.toInt32)), (.int (((p0.toUInt32 >>> ((8 : Int32) &&& 31).toUInt32).toInt32).toInt8.toInt32))] (.int (0 : Int32)) := ((Vn3.ext E4).other W5 ne_b1_b4)
  refine g_newarray X5 hx hZ (aty := .byte) (hw _ (List.mem_of_getElem? (i := 0) rfl)) e5 (by decide) 0 (by decide) (by decide) (by decide) (by decide) (ad := "[B") (by decide) (hb hby at_44) rfl fun T6 h6 b6 ka6 X6 e6 q6 E6 A6 V6 => ?_
  have ne_b1_b6 : b1 ≠ b6 := own_ne f7.lt q6
  have ne_b4_b6 : b4 ≠ b6 := own_ne Vn5.lt q6
  have g_b6 : n0 ≤ b6 := Nat.le_trans Z5 (Nat.le_of_eq q6.symm)
  have Z6 : n0 ≤ h6.size := Nat.le_trans Z5 E6.1
  have Vn6 : Arv Z h6 b6 ka6 .byte (0 : Int32) [] (.int (0 : Int32)) := V6
  refine g_astore X6 hx (Ls' := #[.val (.int p0), .val (.int p1), .val (.int p2), .val (.int p3), .val (.int (p0.toInt8.toInt32)), .val (.int (((p0.toUInt32 >>> ((8 : Int32) &&& 31).toUInt32).toInt32).toInt8.toInt32)), .val (.int (p1.toInt8.toInt32)), .val (.ref b1), .val (.ref b4), .val (.ref b6), .unset, .unset, .unset, .unset, .unset]) (hb hby at_46) rfl rfl rfl ?_
  refine g_iconst X6 hx (r := (1 : Int32)) (hb hby at_48) rfl rfl ?_
  have f9 : Arv Z h6 b1 ka1 .byte (2 : Int32) [(.int (p0.toInt8.toInt32)), (.int (((p0.toUInt32 >>> ((8 : Int32) &&& 31).toUInt32).toInt32).toInt8.toInt32))] (.int (0 : Int32)) := (f7.ext E6)
  have f10 : Arv Z h6 b4 ka4 .byte (1 : Int32) [(.int (p1.toInt8.toInt32))] (.int (0 : Int32)) := (Vn5.ext E6)
  refine g_newarray X6 hx hZ (aty := .byte) (hw _ (List.mem_of_getElem? (i := 0) rfl)) e6 (by decide) 1 (by decide) (by decide) (by decide) (by decide) (ad := "[B") (by decide) (hb hby at_49) rfl fun T8 h8 b8 ka8 X8 e8 q8 E8 A8 V8 => ?_
  have ne_b1_b8 : b1 ≠ b8 := own_ne f9.lt q8
  have ne_b4_b8 : b4 ≠ b8 := own_ne f10.lt q8
  have ne_b6_b8 : b6 ≠ b8 := own_ne Vn6.lt q8
  have g_b8 : n0 ≤ b8 := Nat.le_trans Z6 (Nat.le_of_eq q8.symm)
  have Z8 : n0 ≤ h8.size := Nat.le_trans Z6 E8.1
  have Vn8 : Arv Z h8 b8 ka8 .byte (1 : Int32) [(.int (0 : Int32))] (.int (0 : Int32)) := V8
  refine g_astore X8 hx (Ls' := #[.val (.int p0), .val (.int p1), .val (.int p2), .val (.int p3), .val (.int (p0.toInt8.toInt32)), .val (.int (((p0.toUInt32 >>> ((8 : Int32) &&& 31).toUInt32).toInt32).toInt8.toInt32)), .val (.int (p1.toInt8.toInt32)), .val (.ref b1), .val (.ref b4), .val (.ref b6), .val (.ref b8), .unset, .unset, .unset, .unset]) (hb hby at_51) rfl rfl rfl ?_
  refine g_aload X8 hx (hb hby at_53) rfl rfl rfl ?_
  refine g_iconst X8 hx (r := (0 : Int32)) (hb hby at_55) rfl rfl ?_
  refine g_iloadN X8 hx (hb hby at_56) rfl rfl ?_
  refine g_i2b X8 hx (hb hby at_57) rfl rfl ?_
  refine g_bastore X8 hx hZ e8 Vn8 ⟨by decide, by decide⟩ (Nat.le_of_ble_eq_true rfl) (hb hby at_58) rfl fun T11 h11 X11 e11 W11 V11 => ?_
  rw [own_nar, own_bb] at V11
  have Vn11 : Arv Z h11 b8 ka8 .byte (1 : Int32) [(.int (p2.toInt8.toInt32))] (.int (0 : Int32)) := V11
  have N11 := Fr.snoc X11 N5 g_b8
  have Z11 : n0 ≤ h11.size := by rw [W11.size]; exact Z8
  have f13 : Arv Z h11 b1 ka1 .byte (2 : Int32) [(.int (p0.toInt8.toInt32)), (.int (((p0.toUInt32 >>> ((8 : Int32) &&& 31).toUInt32).toInt32).toInt8.toInt32))] (.int (0 : Int32)) := ((f9.ext E8).other W11 ne_b1_b8)
  have f14 : Arv Z h11 b4 ka4 .byte (1 : Int32) [(.int (p1.toInt8.toInt32))] (.int (0 : Int32)) := ((f10.ext E8).other W11 ne_b4_b8)
  have f15 : Arv Z h11 b6 ka6 .byte (0 : Int32) [] (.int (0 : Int32)) := ((Vn6.ext E8).other W11 ne_b6_b8)
  refine g_new X11 hx hZ hown (hw _ (List.mem_of_getElem? (i := 1) rfl)) (hw _ (List.mem_of_getElem? (i := 2) rfl)) (hw _ (List.mem_of_getElem? (i := 3) rfl)) e11 (hb hby at_59) rfl (by decide) (by decide) fun T12 h12 b12 X12 e12 q12 E12 A12 D12 => ?_
  have ne_b1_b12 : b1 ≠ b12 := own_ne f13.lt q12
  have ne_b4_b12 : b4 ≠ b12 := own_ne f14.lt q12
  have ne_b6_b12 : b6 ≠ b12 := own_ne f15.lt q12
  have ne_b8_b12 : b8 ≠ b12 := own_ne Vn11.lt q12
  have g_b12 : n0 ≤ b12 := Nat.le_trans Z11 (Nat.le_of_eq q12.symm)
  have Z12 : n0 ≤ h12.size := Nat.le_trans Z11 E12.1
  have F12_keys : Fld Z h12 b12 "com/example/covering/covering/store/Batch" "keys" "Ljava/util/List;" .null := D12 (Or.inr (hw _ (List.mem_of_getElem? (i := 35) rfl))) (ty := (.object "java/util/List")) (by decide)
  have F12_values : Fld Z h12 b12 "com/example/covering/covering/store/Batch" "values" "Ljava/util/List;" .null := D12 (Or.inr (hw _ (List.mem_of_getElem? (i := 37) rfl))) (ty := (.object "java/util/List")) (by decide)
  refine g_dup X12 hx (hb hby at_62) rfl rfl ?_
  have f17 : Old Z n0 h12 := (((((((((old0.ext E1).wr W2 g_b1).wr W3 g_b1).ext E4).wr W5 g_b4).ext E6).ext E8).wr W11 g_b8).ext E12)
  refine g_special X12 hx hZ hown rfl (hw _ (List.mem_of_getElem? (i := 4) rfl)) (hw _ (List.mem_of_getElem? (i := 5) rfl)) (hw _ (List.mem_of_getElem? (i := 3) rfl)) (hw _ (List.mem_of_getElem? (i := 6) rfl)) (by decide) (a := b12) (rm_bini l Z a0 hw b12 d0 h12 n0 Z12 F12_keys F12_values A12 g_b12 f17 S0_DEFAULTCAPACITY_EMPTY_ELEMENTDATA) (by rw [hml]; rfl) e12 [] rfl rfl (W := 1) (Nat.le_of_eq rfl) (by decide) (by decide) (by decide) (by decide) (lenOf pd_0 rfl) (hb hby at_63) rfl fun v16 T16 L16 X16 hQ16 => ?_
  obtain ⟨kl_16, wl_16, rfl, Nq16, kc16, p16_0, p16_1, p16_2, p16_3, p16_4, p16_5, p16_6, p16_7, p16_8, p16_9, p16_10, p16_11, p16_12, p16_13⟩ := hQ16
  have N16 := Fr.app N11 Nq16
  have f18 : Arv Z h12 b1 ka1 .byte (2 : Int32) [(.int (p0.toInt8.toInt32)), (.int (((p0.toUInt32 >>> ((8 : Int32) &&& 31).toUInt32).toInt32).toInt8.toInt32))] (.int (0 : Int32)) := (f13.ext E12)
  have f19 : Arv Z h12 b4 ka4 .byte (1 : Int32) [(.int (p1.toInt8.toInt32))] (.int (0 : Int32)) := (f14.ext E12)
  have f20 : Arv Z h12 b6 ka6 .byte (0 : Int32) [] (.int (0 : Int32)) := (f15.ext E12)
  have f21 : Arv Z h12 b8 ka8 .byte (1 : Int32) [(.int (p2.toInt8.toInt32))] (.int (0 : Int32)) := (Vn11.ext E12)
  have ne_b1_kl_16 : b1 ≠ kl_16 := own_neK f18.lt p16_0
  have ne_b12_kl_16 : b12 ≠ kl_16 := own_neK A12.lt p16_0
  have ne_b4_kl_16 : b4 ≠ kl_16 := own_neK f19.lt p16_0
  have ne_b6_kl_16 : b6 ≠ kl_16 := own_neK f20.lt p16_0
  have ne_b8_kl_16 : b8 ≠ kl_16 := own_neK f21.lt p16_0
  have g_kl_16 : n0 ≤ kl_16 := Nat.le_trans Z12 p16_0
  have ne_b1_wl_16 : b1 ≠ wl_16 := own_neK f18.lt p16_1
  have ne_b12_wl_16 : b12 ≠ wl_16 := own_neK A12.lt p16_1
  have ne_b4_wl_16 : b4 ≠ wl_16 := own_neK f19.lt p16_1
  have ne_b6_wl_16 : b6 ≠ wl_16 := own_neK f20.lt p16_1
  have ne_b8_wl_16 : b8 ≠ wl_16 := own_neK f21.lt p16_1
  have g_wl_16 : n0 ≤ wl_16 := Nat.le_trans Z12 p16_1
  have Z16 : n0 ≤ T16.heap.size := Nat.le_trans Z12 kc16.1
  show Ga _ _ _ _ _ _ _ _ _ _ _ [(.ref b12)]
  refine g_astore X16 hx (Ls' := #[.val (.int p0), .val (.int p1), .val (.int p2), .val (.int p3), .val (.int (p0.toInt8.toInt32)), .val (.int (((p0.toUInt32 >>> ((8 : Int32) &&& 31).toUInt32).toInt32).toInt8.toInt32)), .val (.int (p1.toInt8.toInt32)), .val (.ref b1), .val (.ref b4), .val (.ref b6), .val (.ref b8), .val (.ref b12), .unset, .unset, .unset]) (hb hby at_66) rfl rfl rfl ?_
  refine g_aload X16 hx (hb hby at_68) rfl rfl rfl ?_
  refine g_aload X16 hx (hb hby at_70) rfl rfl rfl ?_
  refine g_aload X16 hx (hb hby at_72) rfl rfl rfl ?_
  refine g_iloadN X16 hx (hb hby at_74) rfl rfl ?_
  refine g_iconst X16 hx (r := (1 : Int32)) (hb hby at_75) rfl rfl ?_
  refine g_iand X16 hx (hb hby at_76) rfl rfl ?_
  by_cases hc77 : (p3 &&& (1 : Int32)) = (0 : Int32)
  · skip
    refine g_ifY X16 hx (q := 84) (hb hby at_77) (XT.i0_eq_t hc77) (by decide) (by decide) ?_
    refine g_iconst X16 hx (r := (0 : Int32)) (hb hby at_84) rfl rfl ?_
    have f23 : Exa Z T16.heap b1 "[B" := (((((((((A1.wr W2).wr W3).ext E4).wr W5).ext E6).ext E8).wr W11).ext E12).keep kc16)
    have f24 : Arv Z T16.heap b1 ka1 .byte (2 : Int32) [(.int (p0.toInt8.toInt32)), (.int (((p0.toUInt32 >>> ((8 : Int32) &&& 31).toUInt32).toInt32).toInt8.toInt32))] (.int (0 : Int32)) := (f18.keep kc16 (ninS ne_b1_b12 nin0))
    have f25 : Old Z n0 T16.heap := (f17.keep kc16 (allS g_b12 all0))
    have f26 : Exa Z T16.heap b8 "[B" := (((A8.wr W11).ext E12).keep kc16)
    have f27 : Arv Z T16.heap b8 ka8 .byte (1 : Int32) [(.int (p2.toInt8.toInt32))] (.int (0 : Int32)) := (f21.keep kc16 (ninS ne_b8_b12 nin0))
    refine g_static X16 hx hZ hown (hw _ (List.mem_of_getElem? (i := 38) rfl)) (hw _ (List.mem_of_getElem? (i := 39) rfl)) (hw _ (List.mem_of_getElem? (i := 40) rfl)) (hw _ (List.mem_of_getElem? (i := 41) rfl)) (by decide) (rm_ladd1F l Z a0 hw b12 b1 ka1 (2 : Int32) [(.int (p0.toInt8.toInt32)), (.int (((p0.toUInt32 >>> ((8 : Int32) &&& 31).toUInt32).toInt32).toInt8.toInt32))] kl_16 wl_16 (0 : Int32) (0 : Int32) d0 kd b8 ka8 (1 : Int32) [(.int (p2.toInt8.toInt32))] T16.heap n0 Z16 p16_4 p16_5 p16_3 p16_6 p16_7 g_kl_16 g_wl_16 p16_2 ne_b12_kl_16 ne_b12_wl_16 f23 f24 (by first | decide | assumption | rfl | (intro _; rfl)) p16_8 p16_9 p16_10 p16_11 p16_12 p16_13 f25 S0_DEFAULTCAPACITY_EMPTY_ELEMENTDATA V0_d0 f26 f27 (by first | decide | assumption | rfl | (intro _; rfl)) ne_b8_kl_16) (by rw [hml]; rfl) rfl [(.ref b12), (.ref b1), (.ref b8), (.int (0 : Int32))] rfl rfl (W := 0) (Nat.le_of_eq rfl) (by decide) (by decide) (by decide) (by decide) (lenOf pd_10 rfl) (hb hby at_85) rfl fun v22 T22 L22 X22 hQ22 => ?_
    obtain ⟨cc1_22, ar1_22, kr1_22, ar2_22, kr2_22, cc2_22, rfl, Nq22, kc22, p22_0, p22_1, p22_2, p22_3, p22_4, p22_5, p22_6, p22_7, p22_8, p22_9, p22_10, p22_11, p22_12, p22_13, p22_14, p22_15, p22_16, p22_17, p22_18, p22_19, p22_20, p22_21, p22_22, p22_23, p22_24⟩ := hQ22
    have N22 := Fr.app N16 Nq22
    have f28 : Arv Z T16.heap b4 ka4 .byte (1 : Int32) [(.int (p1.toInt8.toInt32))] (.int (0 : Int32)) := (f19.keep kc16 (ninS ne_b4_b12 nin0))
    have f29 : Arv Z T16.heap b6 ka6 .byte (0 : Int32) [] (.int (0 : Int32)) := (f20.keep kc16 (ninS ne_b6_b12 nin0))
    have ne_b1_cc1_22 : b1 ≠ cc1_22 := own_neK f24.lt p22_0
    have ne_b12_cc1_22 : b12 ≠ cc1_22 := own_neK p16_3.lt p22_0
    have ne_b4_cc1_22 : b4 ≠ cc1_22 := own_neK f28.lt p22_0
    have ne_b6_cc1_22 : b6 ≠ cc1_22 := own_neK f29.lt p22_0
    have ne_b8_cc1_22 : b8 ≠ cc1_22 := own_neK f27.lt p22_0
    have ne_kl_16_cc1_22 : kl_16 ≠ cc1_22 := own_neK p16_6.lt p22_0
    have ne_wl_16_cc1_22 : wl_16 ≠ cc1_22 := own_neK p16_7.lt p22_0
    have g_cc1_22 : n0 ≤ cc1_22 := Nat.le_trans Z16 p22_0
    have ne_b1_ar1_22 : b1 ≠ ar1_22 := own_neK f24.lt p22_1
    have ne_b12_ar1_22 : b12 ≠ ar1_22 := own_neK p16_3.lt p22_1
    have ne_b4_ar1_22 : b4 ≠ ar1_22 := own_neK f28.lt p22_1
    have ne_b6_ar1_22 : b6 ≠ ar1_22 := own_neK f29.lt p22_1
    have ne_b8_ar1_22 : b8 ≠ ar1_22 := own_neK f27.lt p22_1
    have ne_kl_16_ar1_22 : kl_16 ≠ ar1_22 := own_neK p16_6.lt p22_1
    have ne_wl_16_ar1_22 : wl_16 ≠ ar1_22 := own_neK p16_7.lt p22_1
    have g_ar1_22 : n0 ≤ ar1_22 := Nat.le_trans Z16 p22_1
    have ne_b1_ar2_22 : b1 ≠ ar2_22 := own_neK f24.lt p22_2
    have ne_b12_ar2_22 : b12 ≠ ar2_22 := own_neK p16_3.lt p22_2
    have ne_b4_ar2_22 : b4 ≠ ar2_22 := own_neK f28.lt p22_2
    have ne_b6_ar2_22 : b6 ≠ ar2_22 := own_neK f29.lt p22_2
    have ne_b8_ar2_22 : b8 ≠ ar2_22 := own_neK f27.lt p22_2
    have ne_kl_16_ar2_22 : kl_16 ≠ ar2_22 := own_neK p16_6.lt p22_2
    have ne_wl_16_ar2_22 : wl_16 ≠ ar2_22 := own_neK p16_7.lt p22_2
    have g_ar2_22 : n0 ≤ ar2_22 := Nat.le_trans Z16 p22_2
    have ne_b1_cc2_22 : b1 ≠ cc2_22 := own_neK f24.lt p22_3
    have ne_b12_cc2_22 : b12 ≠ cc2_22 := own_neK p16_3.lt p22_3
    have ne_b4_cc2_22 : b4 ≠ cc2_22 := own_neK f28.lt p22_3
    have ne_b6_cc2_22 : b6 ≠ cc2_22 := own_neK f29.lt p22_3
    have ne_b8_cc2_22 : b8 ≠ cc2_22 := own_neK f27.lt p22_3
    have ne_kl_16_cc2_22 : kl_16 ≠ cc2_22 := own_neK p16_6.lt p22_3
    have ne_wl_16_cc2_22 : wl_16 ≠ cc2_22 := own_neK p16_7.lt p22_3
    have g_cc2_22 : n0 ≤ cc2_22 := Nat.le_trans Z16 p22_3
    have Z22 : n0 ≤ T22.heap.size := Nat.le_trans Z16 kc22.1
    have pv22_13 : Arv Z T22.heap cc1_22 ka1 .byte (2 : Int32) [(.int (p0.toInt8.toInt32)), (.int (((p0.toUInt32 >>> ((8 : Int32) &&& 31).toUInt32).toInt32).toInt8.toInt32))] (.int (0 : Int32)) := p22_13
    have pv22_17 : Fld Z T22.heap kl_16 "java/util/AbstractList" "modCount" "I" (.int (1 : Int32)) := p22_17
    have pv22_20 : Fld Z T22.heap wl_16 "java/util/AbstractList" "modCount" "I" (.int (1 : Int32)) := p22_20
    have pv22_23 : Arv Z T22.heap ar1_22 kr1_22 (.object "java/lang/Object") (10 : Int32) [(.ref cc1_22), .null, .null, .null, .null, .null, .null, .null, .null, .null] .null := p22_23
    have pv22_24 : Arv Z T22.heap ar2_22 kr2_22 (.object "java/lang/Object") (10 : Int32) [(.ref cc2_22), .null, .null, .null, .null, .null, .null, .null, .null, .null] .null := p22_24
    show Ga _ _ _ _ _ _ _ _ _ _ _ []
    refine g_aload X22 hx (hb hby at_88) rfl rfl rfl ?_
    refine g_aload X22 hx (hb hby at_90) rfl rfl rfl ?_
    refine g_aload X22 hx (hb hby at_92) rfl rfl rfl ?_
    refine g_iloadN X22 hx (hb hby at_94) rfl rfl ?_
    refine g_iconst X22 hx (r := (2 : Int32)) (hb hby at_95) rfl rfl ?_
    refine g_iand X22 hx (hb hby at_96) rfl rfl ?_
    by_cases hc97 : (p3 &&& (2 : Int32)) = (0 : Int32)
    · skip
      refine g_ifY X22 hx (q := 104) (hb hby at_97) (XT.i0_eq_t hc97) (by decide) (by decide) ?_
      refine g_iconst X22 hx (r := (0 : Int32)) (hb hby at_104) rfl rfl ?_
      have f31 : Fld Z T22.heap b12 "com/example/covering/covering/store/Batch" "keys" "Ljava/util/List;" (.ref kl_16) := (p16_4.keep kc22 (ninS ne_b12_kl_16 (ninS ne_b12_wl_16 nin0)))
      have f32 : Fld Z T22.heap b12 "com/example/covering/covering/store/Batch" "values" "Ljava/util/List;" (.ref wl_16) := (p16_5.keep kc22 (ninS ne_b12_kl_16 (ninS ne_b12_wl_16 nin0)))
      have f33 : Exa Z T22.heap b12 "com/example/covering/covering/store/Batch" := (p16_3.keep kc22)
      have f34 : Exa Z T22.heap b4 "[B" := (((((((A4.wr W5).ext E6).ext E8).wr W11).ext E12).keep kc16).keep kc22)
      have f35 : Arv Z T22.heap b4 ka4 .byte (1 : Int32) [(.int (p1.toInt8.toInt32))] (.int (0 : Int32)) := (f28.keep kc22 (ninS ne_b4_kl_16 (ninS ne_b4_wl_16 nin0)))
      have f36 : Exa Z T22.heap b8 "[B" := (f26.keep kc22)
      have f37 : Arv Z T22.heap b8 ka8 .byte (1 : Int32) [(.int (p2.toInt8.toInt32))] (.int (0 : Int32)) := (f27.keep kc22 (ninS ne_b8_kl_16 (ninS ne_b8_wl_16 nin0)))
      refine g_static X22 hx hZ hown (hw _ (List.mem_of_getElem? (i := 38) rfl)) (hw _ (List.mem_of_getElem? (i := 39) rfl)) (hw _ (List.mem_of_getElem? (i := 40) rfl)) (hw _ (List.mem_of_getElem? (i := 41) rfl)) (by decide) (rm_ladd1N l Z a0 hw b12 b4 ka4 (1 : Int32) [(.int (p1.toInt8.toInt32))] kl_16 wl_16 (1 : Int32) (1 : Int32) ar1_22 kr1_22 ar2_22 kr2_22 (1 : Int32) [(.ref cc1_22), .null, .null, .null, .null, .null, .null, .null, .null, .null] [(.ref cc2_22), .null, .null, .null, .null, .null, .null, .null, .null, .null] b8 ka8 (1 : Int32) [(.int (p2.toInt8.toInt32))] T22.heap n0 Z22 f31 f32 f33 p22_10 p22_11 g_kl_16 g_wl_16 p16_2 ne_b12_kl_16 ne_b12_wl_16 f34 f35 (by first | decide | assumption | rfl | (intro _; rfl)) p22_15 p22_16 pv22_17 p22_18 p22_19 pv22_20 pv22_23 pv22_24 p22_21 p22_22 g_ar1_22 g_ar2_22 p22_7 ne_b12_ar1_22 ne_b12_ar2_22 ne_kl_16_ar1_22 ne_kl_16_ar2_22 ne_wl_16_ar1_22 ne_wl_16_ar2_22 (by first | decide | assumption | rfl | (intro _; rfl)) (by first | decide | assumption | rfl | (intro _; rfl)) (by first | decide | assumption | rfl | (intro _; rfl)) (by first | decide | assumption | rfl | (intro _; rfl)) ne_b8_kl_16 ne_b8_ar1_22 f36 f37 (by first | decide | assumption | rfl | (intro _; rfl))) (by rw [hml]; rfl) rfl [(.ref b12), (.ref b4), (.ref b8), (.int (0 : Int32))] rfl rfl (W := 0) (Nat.le_of_eq rfl) (by decide) (by decide) (by decide) (by decide) (lenOf pd_10 rfl) (hb hby at_105) rfl fun v30 T30 L30 X30 hQ30 => ?_
      obtain ⟨cc1_30, cc2_30, rfl, Nq30, kc30, p30_0, p30_1, p30_2, p30_3, p30_4, p30_5, p30_6, p30_7, p30_8, p30_9, p30_10, p30_11, p30_12, p30_13, p30_14, p30_15⟩ := hQ30
      have N30 := Fr.app N22 Nq30
      have f38 : Arv Z T22.heap b1 ka1 .byte (2 : Int32) [(.int (p0.toInt8.toInt32)), (.int (((p0.toUInt32 >>> ((8 : Int32) &&& 31).toUInt32).toInt32).toInt8.toInt32))] (.int (0 : Int32)) := (f24.keep kc22 (ninS ne_b1_kl_16 (ninS ne_b1_wl_16 nin0)))
      have f39 : Arv Z T22.heap b6 ka6 .byte (0 : Int32) [] (.int (0 : Int32)) := (f29.keep kc22 (ninS ne_b6_kl_16 (ninS ne_b6_wl_16 nin0)))
      have ne_ar1_22_cc1_30 : ar1_22 ≠ cc1_30 := own_neK pv22_23.lt p30_0
      have ne_ar2_22_cc1_30 : ar2_22 ≠ cc1_30 := own_neK pv22_24.lt p30_0
      have ne_b1_cc1_30 : b1 ≠ cc1_30 := own_neK f38.lt p30_0
      have ne_b12_cc1_30 : b12 ≠ cc1_30 := own_neK f33.lt p30_0
      have ne_b4_cc1_30 : b4 ≠ cc1_30 := own_neK f35.lt p30_0
      have ne_b6_cc1_30 : b6 ≠ cc1_30 := own_neK f39.lt p30_0
      have ne_b8_cc1_30 : b8 ≠ cc1_30 := own_neK f37.lt p30_0
      have ne_cc1_22_cc1_30 : cc1_22 ≠ cc1_30 := own_neK p22_12.lt p30_0
      have ne_cc2_22_cc1_30 : cc2_22 ≠ cc1_30 := own_neK p22_14.lt p30_0
      have ne_kl_16_cc1_30 : kl_16 ≠ cc1_30 := own_neK p22_10.lt p30_0
      have ne_wl_16_cc1_30 : wl_16 ≠ cc1_30 := own_neK p22_11.lt p30_0
      have g_cc1_30 : n0 ≤ cc1_30 := Nat.le_trans Z22 p30_0
      have ne_ar1_22_cc2_30 : ar1_22 ≠ cc2_30 := own_neK pv22_23.lt p30_1
      have ne_ar2_22_cc2_30 : ar2_22 ≠ cc2_30 := own_neK pv22_24.lt p30_1
      have ne_b1_cc2_30 : b1 ≠ cc2_30 := own_neK f38.lt p30_1
      have ne_b12_cc2_30 : b12 ≠ cc2_30 := own_neK f33.lt p30_1
      have ne_b4_cc2_30 : b4 ≠ cc2_30 := own_neK f35.lt p30_1
      have ne_b6_cc2_30 : b6 ≠ cc2_30 := own_neK f39.lt p30_1
      have ne_b8_cc2_30 : b8 ≠ cc2_30 := own_neK f37.lt p30_1
      have ne_cc1_22_cc2_30 : cc1_22 ≠ cc2_30 := own_neK p22_12.lt p30_1
      have ne_cc2_22_cc2_30 : cc2_22 ≠ cc2_30 := own_neK p22_14.lt p30_1
      have ne_kl_16_cc2_30 : kl_16 ≠ cc2_30 := own_neK p22_10.lt p30_1
      have ne_wl_16_cc2_30 : wl_16 ≠ cc2_30 := own_neK p22_11.lt p30_1
      have g_cc2_30 : n0 ≤ cc2_30 := Nat.le_trans Z22 p30_1
      have Z30 : n0 ≤ T30.heap.size := Nat.le_trans Z22 kc30.1
      have pv30_6 : Arv Z T30.heap cc1_30 ka4 .byte (1 : Int32) [(.int (p1.toInt8.toInt32))] (.int (0 : Int32)) := p30_6
      have pv30_9 : Fld Z T30.heap kl_16 "java/util/ArrayList" "size" "I" (.int (2 : Int32)) := p30_9
      have pv30_10 : Fld Z T30.heap kl_16 "java/util/AbstractList" "modCount" "I" (.int (2 : Int32)) := p30_10
      have pv30_12 : Fld Z T30.heap wl_16 "java/util/ArrayList" "size" "I" (.int (2 : Int32)) := p30_12
      have pv30_13 : Fld Z T30.heap wl_16 "java/util/AbstractList" "modCount" "I" (.int (2 : Int32)) := p30_13
      have pv30_14 : Arv Z T30.heap ar1_22 kr1_22 (.object "java/lang/Object") (10 : Int32) [(.ref cc1_22), (.ref cc1_30), .null, .null, .null, .null, .null, .null, .null, .null] .null := p30_14
      have pv30_15 : Arv Z T30.heap ar2_22 kr2_22 (.object "java/lang/Object") (10 : Int32) [(.ref cc2_22), (.ref cc2_30), .null, .null, .null, .null, .null, .null, .null, .null] .null := p30_15
      show Ga _ _ _ _ _ _ _ _ _ _ _ []
      refine g_aload X30 hx (hb hby at_108) rfl rfl rfl ?_
      refine g_aload X30 hx (hb hby at_110) rfl rfl rfl ?_
      refine g_aload X30 hx (hb hby at_112) rfl rfl rfl ?_
      refine g_iloadN X30 hx (hb hby at_114) rfl rfl ?_
      refine g_iconst X30 hx (r := (4 : Int32)) (hb hby at_115) rfl rfl ?_
      refine g_iand X30 hx (hb hby at_116) rfl rfl ?_
      by_cases hc117 : (p3 &&& (4 : Int32)) = (0 : Int32)
      · skip
        refine g_ifY X30 hx (q := 124) (hb hby at_117) (XT.i0_eq_t hc117) (by decide) (by decide) ?_
        refine g_iconst X30 hx (r := (0 : Int32)) (hb hby at_124) rfl rfl ?_
        have f41 : Fld Z T30.heap b12 "com/example/covering/covering/store/Batch" "keys" "Ljava/util/List;" (.ref kl_16) := (f31.keep kc30 (ninS ne_b12_kl_16 (ninS ne_b12_wl_16 (ninS ne_b12_ar1_22 (ninS ne_b12_ar2_22 nin0)))))
        have f42 : Fld Z T30.heap b12 "com/example/covering/covering/store/Batch" "values" "Ljava/util/List;" (.ref wl_16) := (f32.keep kc30 (ninS ne_b12_kl_16 (ninS ne_b12_wl_16 (ninS ne_b12_ar1_22 (ninS ne_b12_ar2_22 nin0)))))
        have f43 : Exa Z T30.heap b12 "com/example/covering/covering/store/Batch" := (f33.keep kc30)
        have f44 : Exa Z T30.heap b6 "[B" := ((((((A6.ext E8).wr W11).ext E12).keep kc16).keep kc22).keep kc30)
        have f45 : Arv Z T30.heap b6 ka6 .byte (0 : Int32) [] (.int (0 : Int32)) := (f39.keep kc30 (ninS ne_b6_kl_16 (ninS ne_b6_wl_16 (ninS ne_b6_ar1_22 (ninS ne_b6_ar2_22 nin0)))))
        have f46 : Exa Z T30.heap b8 "[B" := (f36.keep kc30)
        have f47 : Arv Z T30.heap b8 ka8 .byte (1 : Int32) [(.int (p2.toInt8.toInt32))] (.int (0 : Int32)) := (f37.keep kc30 (ninS ne_b8_kl_16 (ninS ne_b8_wl_16 (ninS ne_b8_ar1_22 (ninS ne_b8_ar2_22 nin0)))))
        refine g_static X30 hx hZ hown (hw _ (List.mem_of_getElem? (i := 38) rfl)) (hw _ (List.mem_of_getElem? (i := 39) rfl)) (hw _ (List.mem_of_getElem? (i := 40) rfl)) (hw _ (List.mem_of_getElem? (i := 41) rfl)) (by decide) (rm_ladd1N l Z a0 hw b12 b6 ka6 (0 : Int32) [] kl_16 wl_16 (2 : Int32) (2 : Int32) ar1_22 kr1_22 ar2_22 kr2_22 (2 : Int32) [(.ref cc1_22), (.ref cc1_30), .null, .null, .null, .null, .null, .null, .null, .null] [(.ref cc2_22), (.ref cc2_30), .null, .null, .null, .null, .null, .null, .null, .null] b8 ka8 (1 : Int32) [(.int (p2.toInt8.toInt32))] T30.heap n0 Z30 f41 f42 f43 p30_3 p30_4 g_kl_16 g_wl_16 p16_2 ne_b12_kl_16 ne_b12_wl_16 f44 f45 (by first | decide | assumption | rfl | (intro _; rfl)) p30_8 pv30_9 pv30_10 p30_11 pv30_12 pv30_13 pv30_14 pv30_15 p22_21 p22_22 g_ar1_22 g_ar2_22 p22_7 ne_b12_ar1_22 ne_b12_ar2_22 ne_kl_16_ar1_22 ne_kl_16_ar2_22 ne_wl_16_ar1_22 ne_wl_16_ar2_22 (by first | decide | assumption | rfl | (intro _; rfl)) (by first | decide | assumption | rfl | (intro _; rfl)) (by first | decide | assumption | rfl | (intro _; rfl)) (by first | decide | assumption | rfl | (intro _; rfl)) ne_b8_kl_16 ne_b8_ar1_22 f46 f47 (by first | decide | assumption | rfl | (intro _; rfl))) (by rw [hml]; rfl) rfl [(.ref b12), (.ref b6), (.ref b8), (.int (0 : Int32))] rfl rfl (W := 0) (Nat.le_of_eq rfl) (by decide) (by decide) (by decide) (by decide) (lenOf pd_10 rfl) (hb hby at_125) rfl fun v40 T40 L40 X40 hQ40 => ?_
        obtain ⟨cc1_40, cc2_40, rfl, Nq40, kc40, p40_0, p40_1, p40_2, p40_3, p40_4, p40_5, p40_6, p40_7, p40_8, p40_9, p40_10, p40_11, p40_12, p40_13, p40_14, p40_15⟩ := hQ40
        have N40 := Fr.app N30 Nq40
        have f48 : Arv Z T30.heap b1 ka1 .byte (2 : Int32) [(.int (p0.toInt8.toInt32)), (.int (((p0.toUInt32 >>> ((8 : Int32) &&& 31).toUInt32).toInt32).toInt8.toInt32))] (.int (0 : Int32)) := (f38.keep kc30 (ninS ne_b1_kl_16 (ninS ne_b1_wl_16 (ninS ne_b1_ar1_22 (ninS ne_b1_ar2_22 nin0)))))
        have f49 : Arv Z T30.heap b4 ka4 .byte (1 : Int32) [(.int (p1.toInt8.toInt32))] (.int (0 : Int32)) := (f35.keep kc30 (ninS ne_b4_kl_16 (ninS ne_b4_wl_16 (ninS ne_b4_ar1_22 (ninS ne_b4_ar2_22 nin0)))))
        have f50 : Exa Z T30.heap cc1_22 "[B" := (p22_12.keep kc30)
        have f51 : Exa Z T30.heap cc2_22 "[B" := (p22_14.keep kc30)
        have ne_ar1_22_cc1_40 : ar1_22 ≠ cc1_40 := own_neK pv30_14.lt p40_0
        have ne_ar2_22_cc1_40 : ar2_22 ≠ cc1_40 := own_neK pv30_15.lt p40_0
        have ne_b1_cc1_40 : b1 ≠ cc1_40 := own_neK f48.lt p40_0
        have ne_b12_cc1_40 : b12 ≠ cc1_40 := own_neK f43.lt p40_0
        have ne_b4_cc1_40 : b4 ≠ cc1_40 := own_neK f49.lt p40_0
        have ne_b6_cc1_40 : b6 ≠ cc1_40 := own_neK f45.lt p40_0
        have ne_b8_cc1_40 : b8 ≠ cc1_40 := own_neK f47.lt p40_0
        have ne_cc1_22_cc1_40 : cc1_22 ≠ cc1_40 := own_neK f50.lt p40_0
        have ne_cc1_30_cc1_40 : cc1_30 ≠ cc1_40 := own_neK p30_5.lt p40_0
        have ne_cc2_22_cc1_40 : cc2_22 ≠ cc1_40 := own_neK f51.lt p40_0
        have ne_cc2_30_cc1_40 : cc2_30 ≠ cc1_40 := own_neK p30_7.lt p40_0
        have ne_kl_16_cc1_40 : kl_16 ≠ cc1_40 := own_neK p30_3.lt p40_0
        have ne_wl_16_cc1_40 : wl_16 ≠ cc1_40 := own_neK p30_4.lt p40_0
        have g_cc1_40 : n0 ≤ cc1_40 := Nat.le_trans Z30 p40_0
        have ne_ar1_22_cc2_40 : ar1_22 ≠ cc2_40 := own_neK pv30_14.lt p40_1
        have ne_ar2_22_cc2_40 : ar2_22 ≠ cc2_40 := own_neK pv30_15.lt p40_1
        have ne_b1_cc2_40 : b1 ≠ cc2_40 := own_neK f48.lt p40_1
        have ne_b12_cc2_40 : b12 ≠ cc2_40 := own_neK f43.lt p40_1
        have ne_b4_cc2_40 : b4 ≠ cc2_40 := own_neK f49.lt p40_1
        have ne_b6_cc2_40 : b6 ≠ cc2_40 := own_neK f45.lt p40_1
        have ne_b8_cc2_40 : b8 ≠ cc2_40 := own_neK f47.lt p40_1
        have ne_cc1_22_cc2_40 : cc1_22 ≠ cc2_40 := own_neK f50.lt p40_1
        have ne_cc1_30_cc2_40 : cc1_30 ≠ cc2_40 := own_neK p30_5.lt p40_1
        have ne_cc2_22_cc2_40 : cc2_22 ≠ cc2_40 := own_neK f51.lt p40_1
        have ne_cc2_30_cc2_40 : cc2_30 ≠ cc2_40 := own_neK p30_7.lt p40_1
        have ne_kl_16_cc2_40 : kl_16 ≠ cc2_40 := own_neK p30_3.lt p40_1
        have ne_wl_16_cc2_40 : wl_16 ≠ cc2_40 := own_neK p30_4.lt p40_1
        have g_cc2_40 : n0 ≤ cc2_40 := Nat.le_trans Z30 p40_1
        have Z40 : n0 ≤ T40.heap.size := Nat.le_trans Z30 kc40.1
        have pv40_6 : Arv Z T40.heap cc1_40 ka6 .byte (0 : Int32) [] (.int (0 : Int32)) := p40_6
        have pv40_9 : Fld Z T40.heap kl_16 "java/util/ArrayList" "size" "I" (.int (3 : Int32)) := p40_9
        have pv40_10 : Fld Z T40.heap kl_16 "java/util/AbstractList" "modCount" "I" (.int (3 : Int32)) := p40_10
        have pv40_12 : Fld Z T40.heap wl_16 "java/util/ArrayList" "size" "I" (.int (3 : Int32)) := p40_12
        have pv40_13 : Fld Z T40.heap wl_16 "java/util/AbstractList" "modCount" "I" (.int (3 : Int32)) := p40_13
        have pv40_14 : Arv Z T40.heap ar1_22 kr1_22 (.object "java/lang/Object") (10 : Int32) [(.ref cc1_22), (.ref cc1_30), (.ref cc1_40), .null, .null, .null, .null, .null, .null, .null] .null := p40_14
        have pv40_15 : Arv Z T40.heap ar2_22 kr2_22 (.object "java/lang/Object") (10 : Int32) [(.ref cc2_22), (.ref cc2_30), (.ref cc2_40), .null, .null, .null, .null, .null, .null, .null] .null := p40_15
        show Ga _ _ _ _ _ _ _ _ _ _ _ []
        refine g_aload X40 hx (hb hby at_128) rfl rfl rfl ?_
        refine g_iconst X40 hx (r := (0 : Int32)) (hb hby at_130) rfl rfl ?_
        refine g_aload X40 hx (hb hby at_131) rfl rfl rfl ?_
        refine g_iconst X40 hx (r := (0 : Int32)) (hb hby at_133) rfl rfl ?_
        have f52 : Arv Z T40.heap b1 ka1 .byte (2 : Int32) [(.int (p0.toInt8.toInt32)), (.int (((p0.toUInt32 >>> ((8 : Int32) &&& 31).toUInt32).toInt32).toInt8.toInt32))] (.int (0 : Int32)) := (f48.keep kc40 (ninS ne_b1_kl_16 (ninS ne_b1_wl_16 (ninS ne_b1_ar1_22 (ninS ne_b1_ar2_22 nin0)))))
        refine g_baload X40 hx hZ rfl f52 (v := (.int (p0.toInt8.toInt32))) ⟨by decide, by decide⟩ rfl (hb hby at_134) rfl ?_
        refine g_iconst X40 hx (r := (-1 : Int32)) (hb hby at_135) rfl rfl ?_
        refine g_ixor X40 hx (hb hby at_136) rfl rfl ?_
        refine g_i2b X40 hx (hb hby at_137) rfl rfl ?_
        refine g_bastore X40 hx hZ rfl f52 ⟨by decide, by decide⟩ (Nat.le_of_ble_eq_true rfl) (hb hby at_138) rfl fun T53 h53 X53 e53 W53 V53 => ?_
        rw [own_nar, own_bb] at V53
        have Vn53 : Arv Z h53 b1 ka1 .byte (2 : Int32) [(.int (((p0.toInt8.toInt32) ^^^ (-1 : Int32)).toInt8.toInt32)), (.int (((p0.toUInt32 >>> ((8 : Int32) &&& 31).toUInt32).toInt32).toInt8.toInt32))] (.int (0 : Int32)) := V53
        have N53 := Fr.snoc X53 N40 g_b1
        have Z53 : n0 ≤ h53.size := by rw [W53.size]; exact Z40
        refine g_aload X53 hx (hb hby at_139) rfl rfl rfl ?_
        refine g_iconst X53 hx (r := (1 : Int32)) (hb hby at_141) rfl rfl ?_
        refine g_aload X53 hx (hb hby at_142) rfl rfl rfl ?_
        refine g_iconst X53 hx (r := (1 : Int32)) (hb hby at_144) rfl rfl ?_
        refine g_baload X53 hx hZ e53 Vn53 (v := (.int (((p0.toUInt32 >>> ((8 : Int32) &&& 31).toUInt32).toInt32).toInt8.toInt32))) ⟨by decide, by decide⟩ rfl (hb hby at_145) rfl ?_
        refine g_iconst X53 hx (r := (-1 : Int32)) (hb hby at_146) rfl rfl ?_
        refine g_ixor X53 hx (hb hby at_147) rfl rfl ?_
        refine g_i2b X53 hx (hb hby at_148) rfl rfl ?_
        refine g_bastore X53 hx hZ e53 Vn53 ⟨by decide, by decide⟩ (Nat.le_of_ble_eq_true rfl) (hb hby at_149) rfl fun T54 h54 X54 e54 W54 V54 => ?_
        rw [own_nar, own_bb] at V54
        have Vn54 : Arv Z h54 b1 ka1 .byte (2 : Int32) [(.int (((p0.toInt8.toInt32) ^^^ (-1 : Int32)).toInt8.toInt32)), (.int (((((p0.toUInt32 >>> ((8 : Int32) &&& 31).toUInt32).toInt32).toInt8.toInt32) ^^^ (-1 : Int32)).toInt8.toInt32))] (.int (0 : Int32)) := V54
        have N54 := Fr.snoc X54 N53 g_b1
        have Z54 : n0 ≤ h54.size := by rw [W54.size]; exact Z53
        refine g_aload X54 hx (hb hby at_150) rfl rfl rfl ?_
        refine g_iconst X54 hx (r := (0 : Int32)) (hb hby at_152) rfl rfl ?_
        refine g_aload X54 hx (hb hby at_153) rfl rfl rfl ?_
        refine g_iconst X54 hx (r := (0 : Int32)) (hb hby at_155) rfl rfl ?_
        have f55 : Arv Z h54 b4 ka4 .byte (1 : Int32) [(.int (p1.toInt8.toInt32))] (.int (0 : Int32)) := (((f49.keep kc40 (ninS ne_b4_kl_16 (ninS ne_b4_wl_16 (ninS ne_b4_ar1_22 (ninS ne_b4_ar2_22 nin0))))).other W53 (Ne.symm ne_b1_b4)).other W54 (Ne.symm ne_b1_b4))
        refine g_baload X54 hx hZ e54 f55 (v := (.int (p1.toInt8.toInt32))) ⟨by decide, by decide⟩ rfl (hb hby at_156) rfl ?_
        refine g_iconst X54 hx (r := (-1 : Int32)) (hb hby at_157) rfl rfl ?_
        refine g_ixor X54 hx (hb hby at_158) rfl rfl ?_
        refine g_i2b X54 hx (hb hby at_159) rfl rfl ?_
        refine g_bastore X54 hx hZ e54 f55 ⟨by decide, by decide⟩ (Nat.le_of_ble_eq_true rfl) (hb hby at_160) rfl fun T56 h56 X56 e56 W56 V56 => ?_
        rw [own_nar, own_bb] at V56
        have Vn56 : Arv Z h56 b4 ka4 .byte (1 : Int32) [(.int (((p1.toInt8.toInt32) ^^^ (-1 : Int32)).toInt8.toInt32))] (.int (0 : Int32)) := V56
        have N56 := Fr.snoc X56 N54 g_b4
        have Z56 : n0 ≤ h56.size := by rw [W56.size]; exact Z54
        refine g_aload X56 hx (hb hby at_161) rfl rfl rfl ?_
        refine g_iconst X56 hx (r := (0 : Int32)) (hb hby at_163) rfl rfl ?_
        have f58 : Fld Z h56 b12 "com/example/covering/covering/store/Batch" "keys" "Ljava/util/List;" (.ref kl_16) := ((((f41.keep kc40 (ninS ne_b12_kl_16 (ninS ne_b12_wl_16 (ninS ne_b12_ar1_22 (ninS ne_b12_ar2_22 nin0))))).other W53 (Or.inl (Ne.symm ne_b1_b12))).other W54 (Or.inl (Ne.symm ne_b1_b12))).other W56 (Or.inl (Ne.symm ne_b4_b12)))
        have f59 : Fld Z h56 kl_16 "java/util/ArrayList" "size" "I" (.int (3 : Int32)) := (((pv40_9.other W53 (Or.inl (Ne.symm ne_b1_kl_16))).other W54 (Or.inl (Ne.symm ne_b1_kl_16))).other W56 (Or.inl (Ne.symm ne_b4_kl_16)))
        have f60 : Fld Z h56 kl_16 "java/util/ArrayList" "elementData" "[Ljava/lang/Object;" (.ref ar1_22) := (((p40_8.other W53 (Or.inl (Ne.symm ne_b1_kl_16))).other W54 (Or.inl (Ne.symm ne_b1_kl_16))).other W56 (Or.inl (Ne.symm ne_b4_kl_16)))
        have f61 : Arv Z h56 ar1_22 kr1_22 (.object "java/lang/Object") (10 : Int32) [(.ref cc1_22), (.ref cc1_30), (.ref cc1_40), .null, .null, .null, .null, .null, .null, .null] .null := (((pv40_14.other W53 (Ne.symm ne_b1_ar1_22)).other W54 (Ne.symm ne_b1_ar1_22)).other W56 (Ne.symm ne_b4_ar1_22))
        have f62 : Exa Z h56 kl_16 "java/util/ArrayList" := (((p40_3.wr W53).wr W54).wr W56)
        have f63 : Exa Z h56 cc1_22 "[B" := ((((f50.keep kc40).wr W53).wr W54).wr W56)
        have f64 : Exa Z h56 b12 "com/example/covering/covering/store/Batch" := ((((f43.keep kc40).wr W53).wr W54).wr W56)
        refine g_virtual X56 hx hZ hown (hw _ (List.mem_of_getElem? (i := 96) rfl)) (hw _ (List.mem_of_getElem? (i := 97) rfl)) (notFace_of_selects (args := #[]) (mvT hZ (hw _ (List.mem_of_getElem? (i := 99) rfl)))) (hw _ (List.mem_of_getElem? (i := 99) rfl)) (hw _ (List.mem_of_getElem? (i := 98) rfl)) (hw _ (List.mem_of_getElem? (i := 3) rfl)) (hw _ (List.mem_of_getElem? (i := 100) rfl)) (by decide) (a := b12) f64 (rm_key l Z a0 hw b12 kl_16 ar1_22 kr1_22 (3 : Int32) [(.ref cc1_22), (.ref cc1_30), (.ref cc1_40), .null, .null, .null, .null, .null, .null, .null] (0 : Int32) cc1_22 h56 n0 Z56 f58 f59 f60 f61 f62 (by first | decide | assumption | rfl | (intro _; rfl)) (by first | decide | assumption | rfl | (intro _; rfl)) (by first | decide | assumption | rfl | (intro _; rfl)) (by first | decide | assumption | rfl | (intro _; rfl)) (Ins.self f63)) (by rw [hml]; rfl) e56 [(.int (0 : Int32))] rfl rfl (W := 0) (Nat.le_of_eq rfl) (by decide) (by decide) (by decide) (by decide) (lenOf pd_11 rfl) (hb hby at_164) rfl fun v57 T57 L57 X57 hQ57 => ?_
        obtain ⟨rfl, Nq57, eh57⟩ := hQ57
        have N57 := Fr.app N56 Nq57
        show Ga _ _ _ _ _ _ _ _ _ _ _ [(.ref cc1_22)]
        refine g_astore X57 hx (Ls' := #[.val (.int p0), .val (.int p1), .val (.int p2), .val (.int p3), .val (.int (p0.toInt8.toInt32)), .val (.int (((p0.toUInt32 >>> ((8 : Int32) &&& 31).toUInt32).toInt32).toInt8.toInt32)), .val (.int (p1.toInt8.toInt32)), .val (.ref b1), .val (.ref b4), .val (.ref b6), .val (.ref b8), .val (.ref b12), .val (.ref cc1_22), .unset, .unset]) (hb hby at_167) rfl rfl rfl ?_
        refine g_aload X57 hx (hb hby at_169) rfl rfl rfl ?_
        refine g_iconst X57 hx (r := (1 : Int32)) (hb hby at_171) rfl rfl ?_
        have f66 : Exa Z h56 cc1_30 "[B" := ((((p30_5.keep kc40).wr W53).wr W54).wr W56)
        refine g_virtual X57 hx hZ hown (hw _ (List.mem_of_getElem? (i := 96) rfl)) (hw _ (List.mem_of_getElem? (i := 97) rfl)) (notFace_of_selects (args := #[]) (mvT hZ (hw _ (List.mem_of_getElem? (i := 99) rfl)))) (hw _ (List.mem_of_getElem? (i := 99) rfl)) (hw _ (List.mem_of_getElem? (i := 98) rfl)) (hw _ (List.mem_of_getElem? (i := 3) rfl)) (hw _ (List.mem_of_getElem? (i := 100) rfl)) (by decide) (a := b12) f64 (rm_key l Z a0 hw b12 kl_16 ar1_22 kr1_22 (3 : Int32) [(.ref cc1_22), (.ref cc1_30), (.ref cc1_40), .null, .null, .null, .null, .null, .null, .null] (1 : Int32) cc1_30 h56 n0 Z56 f58 f59 f60 f61 f62 (by first | decide | assumption | rfl | (intro _; rfl)) (by first | decide | assumption | rfl | (intro _; rfl)) (by first | decide | assumption | rfl | (intro _; rfl)) (by first | decide | assumption | rfl | (intro _; rfl)) (Ins.self f66)) (by rw [hml]; rfl) eh57 [(.int (1 : Int32))] rfl rfl (W := 0) (Nat.le_of_eq rfl) (by decide) (by decide) (by decide) (by decide) (lenOf pd_11 rfl) (hb hby at_172) rfl fun v65 T65 L65 X65 hQ65 => ?_
        obtain ⟨rfl, Nq65, eh65⟩ := hQ65
        have N65 := Fr.app N57 Nq65
        show Ga _ _ _ _ _ _ _ _ _ _ _ [(.ref cc1_30)]
        refine g_astore X65 hx (Ls' := #[.val (.int p0), .val (.int p1), .val (.int p2), .val (.int p3), .val (.int (p0.toInt8.toInt32)), .val (.int (((p0.toUInt32 >>> ((8 : Int32) &&& 31).toUInt32).toInt32).toInt8.toInt32)), .val (.int (p1.toInt8.toInt32)), .val (.ref b1), .val (.ref b4), .val (.ref b6), .val (.ref b8), .val (.ref b12), .val (.ref cc1_22), .val (.ref cc1_30), .unset]) (hb hby at_175) rfl rfl rfl ?_
        refine g_aload X65 hx (hb hby at_177) rfl rfl rfl ?_
        refine g_iconst X65 hx (r := (2 : Int32)) (hb hby at_179) rfl rfl ?_
        have f68 : Exa Z h56 cc1_40 "[B" := (((p40_5.wr W53).wr W54).wr W56)
        refine g_virtual X65 hx hZ hown (hw _ (List.mem_of_getElem? (i := 96) rfl)) (hw _ (List.mem_of_getElem? (i := 97) rfl)) (notFace_of_selects (args := #[]) (mvT hZ (hw _ (List.mem_of_getElem? (i := 99) rfl)))) (hw _ (List.mem_of_getElem? (i := 99) rfl)) (hw _ (List.mem_of_getElem? (i := 98) rfl)) (hw _ (List.mem_of_getElem? (i := 3) rfl)) (hw _ (List.mem_of_getElem? (i := 100) rfl)) (by decide) (a := b12) f64 (rm_key l Z a0 hw b12 kl_16 ar1_22 kr1_22 (3 : Int32) [(.ref cc1_22), (.ref cc1_30), (.ref cc1_40), .null, .null, .null, .null, .null, .null, .null] (2 : Int32) cc1_40 h56 n0 Z56 f58 f59 f60 f61 f62 (by first | decide | assumption | rfl | (intro _; rfl)) (by first | decide | assumption | rfl | (intro _; rfl)) (by first | decide | assumption | rfl | (intro _; rfl)) (by first | decide | assumption | rfl | (intro _; rfl)) (Ins.self f68)) (by rw [hml]; rfl) eh65 [(.int (2 : Int32))] rfl rfl (W := 0) (Nat.le_of_eq rfl) (by decide) (by decide) (by decide) (by decide) (lenOf pd_11 rfl) (hb hby at_180) rfl fun v67 T67 L67 X67 hQ67 => ?_
        obtain ⟨rfl, Nq67, eh67⟩ := hQ67
        have N67 := Fr.app N65 Nq67
        show Ga _ _ _ _ _ _ _ _ _ _ _ [(.ref cc1_40)]
        refine g_astore X67 hx (Ls' := #[.val (.int p0), .val (.int p1), .val (.int p2), .val (.int p3), .val (.int (p0.toInt8.toInt32)), .val (.int (((p0.toUInt32 >>> ((8 : Int32) &&& 31).toUInt32).toInt32).toInt8.toInt32)), .val (.int (p1.toInt8.toInt32)), .val (.ref b1), .val (.ref b4), .val (.ref b6), .val (.ref b8), .val (.ref b12), .val (.ref cc1_22), .val (.ref cc1_30), .val (.ref cc1_40)]) (hb hby at_183) rfl rfl rfl ?_
        refine g_aload X67 hx (hb hby at_185) rfl rfl rfl ?_
        refine g_ifnullN X67 hx (hb hby at_187) rfl  ?_
        refine g_aload X67 hx (hb hby at_190) rfl rfl rfl ?_
        refine g_ifnullN X67 hx (hb hby at_192) rfl  ?_
        refine g_aload X67 hx (hb hby at_195) rfl rfl rfl ?_
        refine g_ifnonnullY X67 hx (q := 202) (hb hby at_197) (by decide) (by decide) ?_
        refine g_aload X67 hx (hb hby at_202) rfl rfl rfl ?_
        have f69 : Arv Z h56 cc1_22 ka1 .byte (2 : Int32) [(.int (p0.toInt8.toInt32)), (.int (((p0.toUInt32 >>> ((8 : Int32) &&& 31).toUInt32).toInt32).toInt8.toInt32))] (.int (0 : Int32)) := (((((pv22_13.keep kc30 (ninS (Ne.symm ne_kl_16_cc1_22) (ninS (Ne.symm ne_wl_16_cc1_22) (ninS p22_4 (ninS p22_5 nin0))))).keep kc40 (ninS (Ne.symm ne_kl_16_cc1_22) (ninS (Ne.symm ne_wl_16_cc1_22) (ninS p22_4 (ninS p22_5 nin0))))).other W53 (Ne.symm ne_b1_cc1_22)).other W54 (Ne.symm ne_b1_cc1_22)).other W56 (Ne.symm ne_b4_cc1_22))
        refine g_len X67 hx hZ eh67 f69 (hb hby at_204) rfl ?_
        refine g_iconst X67 hx (r := (2 : Int32)) (hb hby at_205) rfl rfl ?_
        refine g_icmpN X67 hx (hb hby at_206) rfl (XT.ii_ne_f (by decide : (2 : Int32) = (2 : Int32))) ?_
        refine g_aload X67 hx (hb hby at_209) rfl rfl rfl ?_
        refine g_iconst X67 hx (r := (0 : Int32)) (hb hby at_211) rfl rfl ?_
        refine g_baload X67 hx hZ eh67 f69 (v := (.int (p0.toInt8.toInt32))) ⟨by decide, by decide⟩ rfl (hb hby at_212) rfl ?_
        refine g_iload X67 hx (hb hby at_213) rfl rfl ?_
        refine g_icmpN X67 hx (hb hby at_215) rfl (XT.ii_ne_f rfl) ?_
        refine g_aload X67 hx (hb hby at_218) rfl rfl rfl ?_
        refine g_iconst X67 hx (r := (1 : Int32)) (hb hby at_220) rfl rfl ?_
        refine g_baload X67 hx hZ eh67 f69 (v := (.int (((p0.toUInt32 >>> ((8 : Int32) &&& 31).toUInt32).toInt32).toInt8.toInt32))) ⟨by decide, by decide⟩ rfl (hb hby at_221) rfl ?_
        refine g_iload X67 hx (hb hby at_222) rfl rfl ?_
        refine g_icmpN X67 hx (hb hby at_224) rfl (XT.ii_ne_f rfl) ?_
        refine g_aload X67 hx (hb hby at_227) rfl rfl rfl ?_
        have f70 : Arv Z h56 cc1_30 ka4 .byte (1 : Int32) [(.int (p1.toInt8.toInt32))] (.int (0 : Int32)) := ((((pv30_6.keep kc40 (ninS (Ne.symm ne_kl_16_cc1_30) (ninS (Ne.symm ne_wl_16_cc1_30) (ninS (Ne.symm ne_ar1_22_cc1_30) (ninS (Ne.symm ne_ar2_22_cc1_30) nin0))))).other W53 (Ne.symm ne_b1_cc1_30)).other W54 (Ne.symm ne_b1_cc1_30)).other W56 (Ne.symm ne_b4_cc1_30))
        refine g_len X67 hx hZ eh67 f70 (hb hby at_229) rfl ?_
        refine g_iconst X67 hx (r := (1 : Int32)) (hb hby at_230) rfl rfl ?_
        refine g_icmpN X67 hx (hb hby at_231) rfl (XT.ii_ne_f (by decide : (1 : Int32) = (1 : Int32))) ?_
        refine g_aload X67 hx (hb hby at_234) rfl rfl rfl ?_
        refine g_iconst X67 hx (r := (0 : Int32)) (hb hby at_236) rfl rfl ?_
        refine g_baload X67 hx hZ eh67 f70 (v := (.int (p1.toInt8.toInt32))) ⟨by decide, by decide⟩ rfl (hb hby at_237) rfl ?_
        refine g_iload X67 hx (hb hby at_238) rfl rfl ?_
        refine g_icmpN X67 hx (hb hby at_240) rfl (XT.ii_ne_f rfl) ?_
        refine g_aload X67 hx (hb hby at_243) rfl rfl rfl ?_
        have f71 : Arv Z h56 cc1_40 ka6 .byte (0 : Int32) [] (.int (0 : Int32)) := (((pv40_6.other W53 (Ne.symm ne_b1_cc1_40)).other W54 (Ne.symm ne_b1_cc1_40)).other W56 (Ne.symm ne_b4_cc1_40))
        refine g_len X67 hx hZ eh67 f71 (hb hby at_245) rfl ?_
        refine g_ifN X67 hx (hb hby at_246) rfl (XT.i0_ne_f (by decide : (0 : Int32) = (0 : Int32))) ?_
        refine g_iconst X67 hx (r := (1 : Int32)) (hb hby at_249) rfl rfl ?_
        refine g_goto X67 hx (q := 254) (hb hby at_250) (by decide) (by decide) ?_
        exact g_retN X67 hx (t := .boolean) (r := (1 : Int32)) hret (by simp) hlk (hb hby at_254) rfl (by decide) (by decide) (by rw [eh67]; exact ⟨rfl, N67⟩)
      · skip
        refine g_ifN X30 hx (hb hby at_117) rfl (XT.i0_eq_f hc117) ?_
        refine g_iconst X30 hx (r := (1 : Int32)) (hb hby at_120) rfl rfl ?_
        refine g_goto X30 hx (q := 125) (hb hby at_121) (by decide) (by decide) ?_
        have f73 : Fld Z T30.heap b12 "com/example/covering/covering/store/Batch" "keys" "Ljava/util/List;" (.ref kl_16) := (f31.keep kc30 (ninS ne_b12_kl_16 (ninS ne_b12_wl_16 (ninS ne_b12_ar1_22 (ninS ne_b12_ar2_22 nin0)))))
        have f74 : Fld Z T30.heap b12 "com/example/covering/covering/store/Batch" "values" "Ljava/util/List;" (.ref wl_16) := (f32.keep kc30 (ninS ne_b12_kl_16 (ninS ne_b12_wl_16 (ninS ne_b12_ar1_22 (ninS ne_b12_ar2_22 nin0)))))
        have f75 : Exa Z T30.heap b12 "com/example/covering/covering/store/Batch" := (f33.keep kc30)
        have f76 : Exa Z T30.heap b6 "[B" := ((((((A6.ext E8).wr W11).ext E12).keep kc16).keep kc22).keep kc30)
        have f77 : Arv Z T30.heap b6 ka6 .byte (0 : Int32) [] (.int (0 : Int32)) := (f39.keep kc30 (ninS ne_b6_kl_16 (ninS ne_b6_wl_16 (ninS ne_b6_ar1_22 (ninS ne_b6_ar2_22 nin0)))))
        refine g_static X30 hx hZ hown (hw _ (List.mem_of_getElem? (i := 38) rfl)) (hw _ (List.mem_of_getElem? (i := 39) rfl)) (hw _ (List.mem_of_getElem? (i := 40) rfl)) (hw _ (List.mem_of_getElem? (i := 41) rfl)) (by decide) (rm_ladd0N l Z a0 hw b12 b6 ka6 (0 : Int32) [] kl_16 wl_16 (2 : Int32) (2 : Int32) ar1_22 kr1_22 ar2_22 kr2_22 (2 : Int32) [(.ref cc1_22), (.ref cc1_30), .null, .null, .null, .null, .null, .null, .null, .null] [(.ref cc2_22), (.ref cc2_30), .null, .null, .null, .null, .null, .null, .null, .null] b8 T30.heap n0 Z30 f73 f74 f75 p30_3 p30_4 g_kl_16 g_wl_16 p16_2 ne_b12_kl_16 ne_b12_wl_16 f76 f77 (by first | decide | assumption | rfl | (intro _; rfl)) p30_8 pv30_9 pv30_10 p30_11 pv30_12 pv30_13 pv30_14 pv30_15 p22_21 p22_22 g_ar1_22 g_ar2_22 p22_7 ne_b12_ar1_22 ne_b12_ar2_22 ne_kl_16_ar1_22 ne_kl_16_ar2_22 ne_wl_16_ar1_22 ne_wl_16_ar2_22 (by first | decide | assumption | rfl | (intro _; rfl)) (by first | decide | assumption | rfl | (intro _; rfl)) (by first | decide | assumption | rfl | (intro _; rfl)) (by first | decide | assumption | rfl | (intro _; rfl))) (by rw [hml]; rfl) rfl [(.ref b12), (.ref b6), (.ref b8), (.int (1 : Int32))] rfl rfl (W := 0) (Nat.le_of_eq rfl) (by decide) (by decide) (by decide) (by decide) (lenOf pd_10 rfl) (hb hby at_125) rfl fun v72 T72 L72 X72 hQ72 => ?_
        obtain ⟨cc1_72, rfl, Nq72, kc72, p72_0, p72_1, p72_2, p72_3, p72_4, p72_5, p72_6, p72_7, p72_8, p72_9, p72_10, p72_11, p72_12⟩ := hQ72
        have N72 := Fr.app N30 Nq72
        have f78 : Arv Z T30.heap b1 ka1 .byte (2 : Int32) [(.int (p0.toInt8.toInt32)), (.int (((p0.toUInt32 >>> ((8 : Int32) &&& 31).toUInt32).toInt32).toInt8.toInt32))] (.int (0 : Int32)) := (f38.keep kc30 (ninS ne_b1_kl_16 (ninS ne_b1_wl_16 (ninS ne_b1_ar1_22 (ninS ne_b1_ar2_22 nin0)))))
        have f79 : Arv Z T30.heap b4 ka4 .byte (1 : Int32) [(.int (p1.toInt8.toInt32))] (.int (0 : Int32)) := (f35.keep kc30 (ninS ne_b4_kl_16 (ninS ne_b4_wl_16 (ninS ne_b4_ar1_22 (ninS ne_b4_ar2_22 nin0)))))
        have f80 : Arv Z T30.heap b8 ka8 .byte (1 : Int32) [(.int (p2.toInt8.toInt32))] (.int (0 : Int32)) := (f37.keep kc30 (ninS ne_b8_kl_16 (ninS ne_b8_wl_16 (ninS ne_b8_ar1_22 (ninS ne_b8_ar2_22 nin0)))))
        have f81 : Exa Z T30.heap cc1_22 "[B" := (p22_12.keep kc30)
        have f82 : Exa Z T30.heap cc2_22 "[B" := (p22_14.keep kc30)
        have ne_ar1_22_cc1_72 : ar1_22 ≠ cc1_72 := own_neK pv30_14.lt p72_0
        have ne_ar2_22_cc1_72 : ar2_22 ≠ cc1_72 := own_neK pv30_15.lt p72_0
        have ne_b1_cc1_72 : b1 ≠ cc1_72 := own_neK f78.lt p72_0
        have ne_b12_cc1_72 : b12 ≠ cc1_72 := own_neK f75.lt p72_0
        have ne_b4_cc1_72 : b4 ≠ cc1_72 := own_neK f79.lt p72_0
        have ne_b6_cc1_72 : b6 ≠ cc1_72 := own_neK f77.lt p72_0
        have ne_b8_cc1_72 : b8 ≠ cc1_72 := own_neK f80.lt p72_0
        have ne_cc1_22_cc1_72 : cc1_22 ≠ cc1_72 := own_neK f81.lt p72_0
        have ne_cc1_30_cc1_72 : cc1_30 ≠ cc1_72 := own_neK p30_5.lt p72_0
        have ne_cc2_22_cc1_72 : cc2_22 ≠ cc1_72 := own_neK f82.lt p72_0
        have ne_cc2_30_cc1_72 : cc2_30 ≠ cc1_72 := own_neK p30_7.lt p72_0
        have ne_kl_16_cc1_72 : kl_16 ≠ cc1_72 := own_neK p30_3.lt p72_0
        have ne_wl_16_cc1_72 : wl_16 ≠ cc1_72 := own_neK p30_4.lt p72_0
        have g_cc1_72 : n0 ≤ cc1_72 := Nat.le_trans Z30 p72_0
        have Z72 : n0 ≤ T72.heap.size := Nat.le_trans Z30 kc72.1
        have pv72_4 : Arv Z T72.heap cc1_72 ka6 .byte (0 : Int32) [] (.int (0 : Int32)) := p72_4
        have pv72_6 : Fld Z T72.heap kl_16 "java/util/ArrayList" "size" "I" (.int (3 : Int32)) := p72_6
        have pv72_7 : Fld Z T72.heap kl_16 "java/util/AbstractList" "modCount" "I" (.int (3 : Int32)) := p72_7
        have pv72_9 : Fld Z T72.heap wl_16 "java/util/ArrayList" "size" "I" (.int (3 : Int32)) := p72_9
        have pv72_10 : Fld Z T72.heap wl_16 "java/util/AbstractList" "modCount" "I" (.int (3 : Int32)) := p72_10
        have pv72_11 : Arv Z T72.heap ar1_22 kr1_22 (.object "java/lang/Object") (10 : Int32) [(.ref cc1_22), (.ref cc1_30), (.ref cc1_72), .null, .null, .null, .null, .null, .null, .null] .null := p72_11
        have pv72_12 : Arv Z T72.heap ar2_22 kr2_22 (.object "java/lang/Object") (10 : Int32) [(.ref cc2_22), (.ref cc2_30), .null, .null, .null, .null, .null, .null, .null, .null] .null := p72_12
        show Ga _ _ _ _ _ _ _ _ _ _ _ []
        refine g_aload X72 hx (hb hby at_128) rfl rfl rfl ?_
        refine g_iconst X72 hx (r := (0 : Int32)) (hb hby at_130) rfl rfl ?_
        refine g_aload X72 hx (hb hby at_131) rfl rfl rfl ?_
        refine g_iconst X72 hx (r := (0 : Int32)) (hb hby at_133) rfl rfl ?_
        have f83 : Arv Z T72.heap b1 ka1 .byte (2 : Int32) [(.int (p0.toInt8.toInt32)), (.int (((p0.toUInt32 >>> ((8 : Int32) &&& 31).toUInt32).toInt32).toInt8.toInt32))] (.int (0 : Int32)) := (f78.keep kc72 (ninS ne_b1_kl_16 (ninS ne_b1_wl_16 (ninS ne_b1_ar1_22 (ninS ne_b1_ar2_22 nin0)))))
        refine g_baload X72 hx hZ rfl f83 (v := (.int (p0.toInt8.toInt32))) ⟨by decide, by decide⟩ rfl (hb hby at_134) rfl ?_
        refine g_iconst X72 hx (r := (-1 : Int32)) (hb hby at_135) rfl rfl ?_
        refine g_ixor X72 hx (hb hby at_136) rfl rfl ?_
        refine g_i2b X72 hx (hb hby at_137) rfl rfl ?_
        refine g_bastore X72 hx hZ rfl f83 ⟨by decide, by decide⟩ (Nat.le_of_ble_eq_true rfl) (hb hby at_138) rfl fun T84 h84 X84 e84 W84 V84 => ?_
        rw [own_nar, own_bb] at V84
        have Vn84 : Arv Z h84 b1 ka1 .byte (2 : Int32) [(.int (((p0.toInt8.toInt32) ^^^ (-1 : Int32)).toInt8.toInt32)), (.int (((p0.toUInt32 >>> ((8 : Int32) &&& 31).toUInt32).toInt32).toInt8.toInt32))] (.int (0 : Int32)) := V84
        have N84 := Fr.snoc X84 N72 g_b1
        have Z84 : n0 ≤ h84.size := by rw [W84.size]; exact Z72
        refine g_aload X84 hx (hb hby at_139) rfl rfl rfl ?_
        refine g_iconst X84 hx (r := (1 : Int32)) (hb hby at_141) rfl rfl ?_
        refine g_aload X84 hx (hb hby at_142) rfl rfl rfl ?_
        refine g_iconst X84 hx (r := (1 : Int32)) (hb hby at_144) rfl rfl ?_
        refine g_baload X84 hx hZ e84 Vn84 (v := (.int (((p0.toUInt32 >>> ((8 : Int32) &&& 31).toUInt32).toInt32).toInt8.toInt32))) ⟨by decide, by decide⟩ rfl (hb hby at_145) rfl ?_
        refine g_iconst X84 hx (r := (-1 : Int32)) (hb hby at_146) rfl rfl ?_
        refine g_ixor X84 hx (hb hby at_147) rfl rfl ?_
        refine g_i2b X84 hx (hb hby at_148) rfl rfl ?_
        refine g_bastore X84 hx hZ e84 Vn84 ⟨by decide, by decide⟩ (Nat.le_of_ble_eq_true rfl) (hb hby at_149) rfl fun T85 h85 X85 e85 W85 V85 => ?_
        rw [own_nar, own_bb] at V85
        have Vn85 : Arv Z h85 b1 ka1 .byte (2 : Int32) [(.int (((p0.toInt8.toInt32) ^^^ (-1 : Int32)).toInt8.toInt32)), (.int (((((p0.toUInt32 >>> ((8 : Int32) &&& 31).toUInt32).toInt32).toInt8.toInt32) ^^^ (-1 : Int32)).toInt8.toInt32))] (.int (0 : Int32)) := V85
        have N85 := Fr.snoc X85 N84 g_b1
        have Z85 : n0 ≤ h85.size := by rw [W85.size]; exact Z84
        refine g_aload X85 hx (hb hby at_150) rfl rfl rfl ?_
        refine g_iconst X85 hx (r := (0 : Int32)) (hb hby at_152) rfl rfl ?_
        refine g_aload X85 hx (hb hby at_153) rfl rfl rfl ?_
        refine g_iconst X85 hx (r := (0 : Int32)) (hb hby at_155) rfl rfl ?_
        have f86 : Arv Z h85 b4 ka4 .byte (1 : Int32) [(.int (p1.toInt8.toInt32))] (.int (0 : Int32)) := (((f79.keep kc72 (ninS ne_b4_kl_16 (ninS ne_b4_wl_16 (ninS ne_b4_ar1_22 (ninS ne_b4_ar2_22 nin0))))).other W84 (Ne.symm ne_b1_b4)).other W85 (Ne.symm ne_b1_b4))
        refine g_baload X85 hx hZ e85 f86 (v := (.int (p1.toInt8.toInt32))) ⟨by decide, by decide⟩ rfl (hb hby at_156) rfl ?_
        refine g_iconst X85 hx (r := (-1 : Int32)) (hb hby at_157) rfl rfl ?_
        refine g_ixor X85 hx (hb hby at_158) rfl rfl ?_
        refine g_i2b X85 hx (hb hby at_159) rfl rfl ?_
        refine g_bastore X85 hx hZ e85 f86 ⟨by decide, by decide⟩ (Nat.le_of_ble_eq_true rfl) (hb hby at_160) rfl fun T87 h87 X87 e87 W87 V87 => ?_
        rw [own_nar, own_bb] at V87
        have Vn87 : Arv Z h87 b4 ka4 .byte (1 : Int32) [(.int (((p1.toInt8.toInt32) ^^^ (-1 : Int32)).toInt8.toInt32))] (.int (0 : Int32)) := V87
        have N87 := Fr.snoc X87 N85 g_b4
        have Z87 : n0 ≤ h87.size := by rw [W87.size]; exact Z85
        refine g_aload X87 hx (hb hby at_161) rfl rfl rfl ?_
        refine g_iconst X87 hx (r := (0 : Int32)) (hb hby at_163) rfl rfl ?_
        have f89 : Fld Z h87 b12 "com/example/covering/covering/store/Batch" "keys" "Ljava/util/List;" (.ref kl_16) := ((((f73.keep kc72 (ninS ne_b12_kl_16 (ninS ne_b12_wl_16 (ninS ne_b12_ar1_22 (ninS ne_b12_ar2_22 nin0))))).other W84 (Or.inl (Ne.symm ne_b1_b12))).other W85 (Or.inl (Ne.symm ne_b1_b12))).other W87 (Or.inl (Ne.symm ne_b4_b12)))
        have f90 : Fld Z h87 kl_16 "java/util/ArrayList" "size" "I" (.int (3 : Int32)) := (((pv72_6.other W84 (Or.inl (Ne.symm ne_b1_kl_16))).other W85 (Or.inl (Ne.symm ne_b1_kl_16))).other W87 (Or.inl (Ne.symm ne_b4_kl_16)))
        have f91 : Fld Z h87 kl_16 "java/util/ArrayList" "elementData" "[Ljava/lang/Object;" (.ref ar1_22) := (((p72_5.other W84 (Or.inl (Ne.symm ne_b1_kl_16))).other W85 (Or.inl (Ne.symm ne_b1_kl_16))).other W87 (Or.inl (Ne.symm ne_b4_kl_16)))
        have f92 : Arv Z h87 ar1_22 kr1_22 (.object "java/lang/Object") (10 : Int32) [(.ref cc1_22), (.ref cc1_30), (.ref cc1_72), .null, .null, .null, .null, .null, .null, .null] .null := (((pv72_11.other W84 (Ne.symm ne_b1_ar1_22)).other W85 (Ne.symm ne_b1_ar1_22)).other W87 (Ne.symm ne_b4_ar1_22))
        have f93 : Exa Z h87 kl_16 "java/util/ArrayList" := (((p72_1.wr W84).wr W85).wr W87)
        have f94 : Exa Z h87 cc1_22 "[B" := ((((f81.keep kc72).wr W84).wr W85).wr W87)
        have f95 : Exa Z h87 b12 "com/example/covering/covering/store/Batch" := ((((f75.keep kc72).wr W84).wr W85).wr W87)
        refine g_virtual X87 hx hZ hown (hw _ (List.mem_of_getElem? (i := 96) rfl)) (hw _ (List.mem_of_getElem? (i := 97) rfl)) (notFace_of_selects (args := #[]) (mvT hZ (hw _ (List.mem_of_getElem? (i := 99) rfl)))) (hw _ (List.mem_of_getElem? (i := 99) rfl)) (hw _ (List.mem_of_getElem? (i := 98) rfl)) (hw _ (List.mem_of_getElem? (i := 3) rfl)) (hw _ (List.mem_of_getElem? (i := 100) rfl)) (by decide) (a := b12) f95 (rm_key l Z a0 hw b12 kl_16 ar1_22 kr1_22 (3 : Int32) [(.ref cc1_22), (.ref cc1_30), (.ref cc1_72), .null, .null, .null, .null, .null, .null, .null] (0 : Int32) cc1_22 h87 n0 Z87 f89 f90 f91 f92 f93 (by first | decide | assumption | rfl | (intro _; rfl)) (by first | decide | assumption | rfl | (intro _; rfl)) (by first | decide | assumption | rfl | (intro _; rfl)) (by first | decide | assumption | rfl | (intro _; rfl)) (Ins.self f94)) (by rw [hml]; rfl) e87 [(.int (0 : Int32))] rfl rfl (W := 0) (Nat.le_of_eq rfl) (by decide) (by decide) (by decide) (by decide) (lenOf pd_11 rfl) (hb hby at_164) rfl fun v88 T88 L88 X88 hQ88 => ?_
        obtain ⟨rfl, Nq88, eh88⟩ := hQ88
        have N88 := Fr.app N87 Nq88
        show Ga _ _ _ _ _ _ _ _ _ _ _ [(.ref cc1_22)]
        refine g_astore X88 hx (Ls' := #[.val (.int p0), .val (.int p1), .val (.int p2), .val (.int p3), .val (.int (p0.toInt8.toInt32)), .val (.int (((p0.toUInt32 >>> ((8 : Int32) &&& 31).toUInt32).toInt32).toInt8.toInt32)), .val (.int (p1.toInt8.toInt32)), .val (.ref b1), .val (.ref b4), .val (.ref b6), .val (.ref b8), .val (.ref b12), .val (.ref cc1_22), .unset, .unset]) (hb hby at_167) rfl rfl rfl ?_
        refine g_aload X88 hx (hb hby at_169) rfl rfl rfl ?_
        refine g_iconst X88 hx (r := (1 : Int32)) (hb hby at_171) rfl rfl ?_
        have f97 : Exa Z h87 cc1_30 "[B" := ((((p30_5.keep kc72).wr W84).wr W85).wr W87)
        refine g_virtual X88 hx hZ hown (hw _ (List.mem_of_getElem? (i := 96) rfl)) (hw _ (List.mem_of_getElem? (i := 97) rfl)) (notFace_of_selects (args := #[]) (mvT hZ (hw _ (List.mem_of_getElem? (i := 99) rfl)))) (hw _ (List.mem_of_getElem? (i := 99) rfl)) (hw _ (List.mem_of_getElem? (i := 98) rfl)) (hw _ (List.mem_of_getElem? (i := 3) rfl)) (hw _ (List.mem_of_getElem? (i := 100) rfl)) (by decide) (a := b12) f95 (rm_key l Z a0 hw b12 kl_16 ar1_22 kr1_22 (3 : Int32) [(.ref cc1_22), (.ref cc1_30), (.ref cc1_72), .null, .null, .null, .null, .null, .null, .null] (1 : Int32) cc1_30 h87 n0 Z87 f89 f90 f91 f92 f93 (by first | decide | assumption | rfl | (intro _; rfl)) (by first | decide | assumption | rfl | (intro _; rfl)) (by first | decide | assumption | rfl | (intro _; rfl)) (by first | decide | assumption | rfl | (intro _; rfl)) (Ins.self f97)) (by rw [hml]; rfl) eh88 [(.int (1 : Int32))] rfl rfl (W := 0) (Nat.le_of_eq rfl) (by decide) (by decide) (by decide) (by decide) (lenOf pd_11 rfl) (hb hby at_172) rfl fun v96 T96 L96 X96 hQ96 => ?_
        obtain ⟨rfl, Nq96, eh96⟩ := hQ96
        have N96 := Fr.app N88 Nq96
        show Ga _ _ _ _ _ _ _ _ _ _ _ [(.ref cc1_30)]
        refine g_astore X96 hx (Ls' := #[.val (.int p0), .val (.int p1), .val (.int p2), .val (.int p3), .val (.int (p0.toInt8.toInt32)), .val (.int (((p0.toUInt32 >>> ((8 : Int32) &&& 31).toUInt32).toInt32).toInt8.toInt32)), .val (.int (p1.toInt8.toInt32)), .val (.ref b1), .val (.ref b4), .val (.ref b6), .val (.ref b8), .val (.ref b12), .val (.ref cc1_22), .val (.ref cc1_30), .unset]) (hb hby at_175) rfl rfl rfl ?_
        refine g_aload X96 hx (hb hby at_177) rfl rfl rfl ?_
        refine g_iconst X96 hx (r := (2 : Int32)) (hb hby at_179) rfl rfl ?_
        have f99 : Exa Z h87 cc1_72 "[B" := (((p72_3.wr W84).wr W85).wr W87)
        refine g_virtual X96 hx hZ hown (hw _ (List.mem_of_getElem? (i := 96) rfl)) (hw _ (List.mem_of_getElem? (i := 97) rfl)) (notFace_of_selects (args := #[]) (mvT hZ (hw _ (List.mem_of_getElem? (i := 99) rfl)))) (hw _ (List.mem_of_getElem? (i := 99) rfl)) (hw _ (List.mem_of_getElem? (i := 98) rfl)) (hw _ (List.mem_of_getElem? (i := 3) rfl)) (hw _ (List.mem_of_getElem? (i := 100) rfl)) (by decide) (a := b12) f95 (rm_key l Z a0 hw b12 kl_16 ar1_22 kr1_22 (3 : Int32) [(.ref cc1_22), (.ref cc1_30), (.ref cc1_72), .null, .null, .null, .null, .null, .null, .null] (2 : Int32) cc1_72 h87 n0 Z87 f89 f90 f91 f92 f93 (by first | decide | assumption | rfl | (intro _; rfl)) (by first | decide | assumption | rfl | (intro _; rfl)) (by first | decide | assumption | rfl | (intro _; rfl)) (by first | decide | assumption | rfl | (intro _; rfl)) (Ins.self f99)) (by rw [hml]; rfl) eh96 [(.int (2 : Int32))] rfl rfl (W := 0) (Nat.le_of_eq rfl) (by decide) (by decide) (by decide) (by decide) (lenOf pd_11 rfl) (hb hby at_180) rfl fun v98 T98 L98 X98 hQ98 => ?_
        obtain ⟨rfl, Nq98, eh98⟩ := hQ98
        have N98 := Fr.app N96 Nq98
        show Ga _ _ _ _ _ _ _ _ _ _ _ [(.ref cc1_72)]
        refine g_astore X98 hx (Ls' := #[.val (.int p0), .val (.int p1), .val (.int p2), .val (.int p3), .val (.int (p0.toInt8.toInt32)), .val (.int (((p0.toUInt32 >>> ((8 : Int32) &&& 31).toUInt32).toInt32).toInt8.toInt32)), .val (.int (p1.toInt8.toInt32)), .val (.ref b1), .val (.ref b4), .val (.ref b6), .val (.ref b8), .val (.ref b12), .val (.ref cc1_22), .val (.ref cc1_30), .val (.ref cc1_72)]) (hb hby at_183) rfl rfl rfl ?_
        refine g_aload X98 hx (hb hby at_185) rfl rfl rfl ?_
        refine g_ifnullN X98 hx (hb hby at_187) rfl  ?_
        refine g_aload X98 hx (hb hby at_190) rfl rfl rfl ?_
        refine g_ifnullN X98 hx (hb hby at_192) rfl  ?_
        refine g_aload X98 hx (hb hby at_195) rfl rfl rfl ?_
        refine g_ifnonnullY X98 hx (q := 202) (hb hby at_197) (by decide) (by decide) ?_
        refine g_aload X98 hx (hb hby at_202) rfl rfl rfl ?_
        have f100 : Arv Z h87 cc1_22 ka1 .byte (2 : Int32) [(.int (p0.toInt8.toInt32)), (.int (((p0.toUInt32 >>> ((8 : Int32) &&& 31).toUInt32).toInt32).toInt8.toInt32))] (.int (0 : Int32)) := (((((pv22_13.keep kc30 (ninS (Ne.symm ne_kl_16_cc1_22) (ninS (Ne.symm ne_wl_16_cc1_22) (ninS p22_4 (ninS p22_5 nin0))))).keep kc72 (ninS (Ne.symm ne_kl_16_cc1_22) (ninS (Ne.symm ne_wl_16_cc1_22) (ninS p22_4 (ninS p22_5 nin0))))).other W84 (Ne.symm ne_b1_cc1_22)).other W85 (Ne.symm ne_b1_cc1_22)).other W87 (Ne.symm ne_b4_cc1_22))
        refine g_len X98 hx hZ eh98 f100 (hb hby at_204) rfl ?_
        refine g_iconst X98 hx (r := (2 : Int32)) (hb hby at_205) rfl rfl ?_
        refine g_icmpN X98 hx (hb hby at_206) rfl (XT.ii_ne_f (by decide : (2 : Int32) = (2 : Int32))) ?_
        refine g_aload X98 hx (hb hby at_209) rfl rfl rfl ?_
        refine g_iconst X98 hx (r := (0 : Int32)) (hb hby at_211) rfl rfl ?_
        refine g_baload X98 hx hZ eh98 f100 (v := (.int (p0.toInt8.toInt32))) ⟨by decide, by decide⟩ rfl (hb hby at_212) rfl ?_
        refine g_iload X98 hx (hb hby at_213) rfl rfl ?_
        refine g_icmpN X98 hx (hb hby at_215) rfl (XT.ii_ne_f rfl) ?_
        refine g_aload X98 hx (hb hby at_218) rfl rfl rfl ?_
        refine g_iconst X98 hx (r := (1 : Int32)) (hb hby at_220) rfl rfl ?_
        refine g_baload X98 hx hZ eh98 f100 (v := (.int (((p0.toUInt32 >>> ((8 : Int32) &&& 31).toUInt32).toInt32).toInt8.toInt32))) ⟨by decide, by decide⟩ rfl (hb hby at_221) rfl ?_
        refine g_iload X98 hx (hb hby at_222) rfl rfl ?_
        refine g_icmpN X98 hx (hb hby at_224) rfl (XT.ii_ne_f rfl) ?_
        refine g_aload X98 hx (hb hby at_227) rfl rfl rfl ?_
        have f101 : Arv Z h87 cc1_30 ka4 .byte (1 : Int32) [(.int (p1.toInt8.toInt32))] (.int (0 : Int32)) := ((((pv30_6.keep kc72 (ninS (Ne.symm ne_kl_16_cc1_30) (ninS (Ne.symm ne_wl_16_cc1_30) (ninS (Ne.symm ne_ar1_22_cc1_30) (ninS (Ne.symm ne_ar2_22_cc1_30) nin0))))).other W84 (Ne.symm ne_b1_cc1_30)).other W85 (Ne.symm ne_b1_cc1_30)).other W87 (Ne.symm ne_b4_cc1_30))
        refine g_len X98 hx hZ eh98 f101 (hb hby at_229) rfl ?_
        refine g_iconst X98 hx (r := (1 : Int32)) (hb hby at_230) rfl rfl ?_
        refine g_icmpN X98 hx (hb hby at_231) rfl (XT.ii_ne_f (by decide : (1 : Int32) = (1 : Int32))) ?_
        refine g_aload X98 hx (hb hby at_234) rfl rfl rfl ?_
        refine g_iconst X98 hx (r := (0 : Int32)) (hb hby at_236) rfl rfl ?_
        refine g_baload X98 hx hZ eh98 f101 (v := (.int (p1.toInt8.toInt32))) ⟨by decide, by decide⟩ rfl (hb hby at_237) rfl ?_
        refine g_iload X98 hx (hb hby at_238) rfl rfl ?_
        refine g_icmpN X98 hx (hb hby at_240) rfl (XT.ii_ne_f rfl) ?_
        refine g_aload X98 hx (hb hby at_243) rfl rfl rfl ?_
        have f102 : Arv Z h87 cc1_72 ka6 .byte (0 : Int32) [] (.int (0 : Int32)) := (((pv72_4.other W84 (Ne.symm ne_b1_cc1_72)).other W85 (Ne.symm ne_b1_cc1_72)).other W87 (Ne.symm ne_b4_cc1_72))
        refine g_len X98 hx hZ eh98 f102 (hb hby at_245) rfl ?_
        refine g_ifN X98 hx (hb hby at_246) rfl (XT.i0_ne_f (by decide : (0 : Int32) = (0 : Int32))) ?_
        refine g_iconst X98 hx (r := (1 : Int32)) (hb hby at_249) rfl rfl ?_
        refine g_goto X98 hx (q := 254) (hb hby at_250) (by decide) (by decide) ?_
        exact g_retN X98 hx (t := .boolean) (r := (1 : Int32)) hret (by simp) hlk (hb hby at_254) rfl (by decide) (by decide) (by rw [eh98]; exact ⟨rfl, N98⟩)
    · skip
      refine g_ifN X22 hx (hb hby at_97) rfl (XT.i0_eq_f hc97) ?_
      refine g_iconst X22 hx (r := (1 : Int32)) (hb hby at_100) rfl rfl ?_
      refine g_goto X22 hx (q := 105) (hb hby at_101) (by decide) (by decide) ?_
      have f104 : Fld Z T22.heap b12 "com/example/covering/covering/store/Batch" "keys" "Ljava/util/List;" (.ref kl_16) := (p16_4.keep kc22 (ninS ne_b12_kl_16 (ninS ne_b12_wl_16 nin0)))
      have f105 : Fld Z T22.heap b12 "com/example/covering/covering/store/Batch" "values" "Ljava/util/List;" (.ref wl_16) := (p16_5.keep kc22 (ninS ne_b12_kl_16 (ninS ne_b12_wl_16 nin0)))
      have f106 : Exa Z T22.heap b12 "com/example/covering/covering/store/Batch" := (p16_3.keep kc22)
      have f107 : Exa Z T22.heap b4 "[B" := (((((((A4.wr W5).ext E6).ext E8).wr W11).ext E12).keep kc16).keep kc22)
      have f108 : Arv Z T22.heap b4 ka4 .byte (1 : Int32) [(.int (p1.toInt8.toInt32))] (.int (0 : Int32)) := (f28.keep kc22 (ninS ne_b4_kl_16 (ninS ne_b4_wl_16 nin0)))
      refine g_static X22 hx hZ hown (hw _ (List.mem_of_getElem? (i := 38) rfl)) (hw _ (List.mem_of_getElem? (i := 39) rfl)) (hw _ (List.mem_of_getElem? (i := 40) rfl)) (hw _ (List.mem_of_getElem? (i := 41) rfl)) (by decide) (rm_ladd0N l Z a0 hw b12 b4 ka4 (1 : Int32) [(.int (p1.toInt8.toInt32))] kl_16 wl_16 (1 : Int32) (1 : Int32) ar1_22 kr1_22 ar2_22 kr2_22 (1 : Int32) [(.ref cc1_22), .null, .null, .null, .null, .null, .null, .null, .null, .null] [(.ref cc2_22), .null, .null, .null, .null, .null, .null, .null, .null, .null] b8 T22.heap n0 Z22 f104 f105 f106 p22_10 p22_11 g_kl_16 g_wl_16 p16_2 ne_b12_kl_16 ne_b12_wl_16 f107 f108 (by first | decide | assumption | rfl | (intro _; rfl)) p22_15 p22_16 pv22_17 p22_18 p22_19 pv22_20 pv22_23 pv22_24 p22_21 p22_22 g_ar1_22 g_ar2_22 p22_7 ne_b12_ar1_22 ne_b12_ar2_22 ne_kl_16_ar1_22 ne_kl_16_ar2_22 ne_wl_16_ar1_22 ne_wl_16_ar2_22 (by first | decide | assumption | rfl | (intro _; rfl)) (by first | decide | assumption | rfl | (intro _; rfl)) (by first | decide | assumption | rfl | (intro _; rfl)) (by first | decide | assumption | rfl | (intro _; rfl))) (by rw [hml]; rfl) rfl [(.ref b12), (.ref b4), (.ref b8), (.int (1 : Int32))] rfl rfl (W := 0) (Nat.le_of_eq rfl) (by decide) (by decide) (by decide) (by decide) (lenOf pd_10 rfl) (hb hby at_105) rfl fun v103 T103 L103 X103 hQ103 => ?_
      obtain ⟨cc1_103, rfl, Nq103, kc103, p103_0, p103_1, p103_2, p103_3, p103_4, p103_5, p103_6, p103_7, p103_8, p103_9, p103_10, p103_11, p103_12⟩ := hQ103
      have N103 := Fr.app N22 Nq103
      have f109 : Arv Z T22.heap b1 ka1 .byte (2 : Int32) [(.int (p0.toInt8.toInt32)), (.int (((p0.toUInt32 >>> ((8 : Int32) &&& 31).toUInt32).toInt32).toInt8.toInt32))] (.int (0 : Int32)) := (f24.keep kc22 (ninS ne_b1_kl_16 (ninS ne_b1_wl_16 nin0)))
      have f110 : Arv Z T22.heap b6 ka6 .byte (0 : Int32) [] (.int (0 : Int32)) := (f29.keep kc22 (ninS ne_b6_kl_16 (ninS ne_b6_wl_16 nin0)))
      have f111 : Arv Z T22.heap b8 ka8 .byte (1 : Int32) [(.int (p2.toInt8.toInt32))] (.int (0 : Int32)) := (f27.keep kc22 (ninS ne_b8_kl_16 (ninS ne_b8_wl_16 nin0)))
      have ne_ar1_22_cc1_103 : ar1_22 ≠ cc1_103 := own_neK pv22_23.lt p103_0
      have ne_ar2_22_cc1_103 : ar2_22 ≠ cc1_103 := own_neK pv22_24.lt p103_0
      have ne_b1_cc1_103 : b1 ≠ cc1_103 := own_neK f109.lt p103_0
      have ne_b12_cc1_103 : b12 ≠ cc1_103 := own_neK f106.lt p103_0
      have ne_b4_cc1_103 : b4 ≠ cc1_103 := own_neK f108.lt p103_0
      have ne_b6_cc1_103 : b6 ≠ cc1_103 := own_neK f110.lt p103_0
      have ne_b8_cc1_103 : b8 ≠ cc1_103 := own_neK f111.lt p103_0
      have ne_cc1_22_cc1_103 : cc1_22 ≠ cc1_103 := own_neK p22_12.lt p103_0
      have ne_cc2_22_cc1_103 : cc2_22 ≠ cc1_103 := own_neK p22_14.lt p103_0
      have ne_kl_16_cc1_103 : kl_16 ≠ cc1_103 := own_neK p22_10.lt p103_0
      have ne_wl_16_cc1_103 : wl_16 ≠ cc1_103 := own_neK p22_11.lt p103_0
      have g_cc1_103 : n0 ≤ cc1_103 := Nat.le_trans Z22 p103_0
      have Z103 : n0 ≤ T103.heap.size := Nat.le_trans Z22 kc103.1
      have pv103_4 : Arv Z T103.heap cc1_103 ka4 .byte (1 : Int32) [(.int (p1.toInt8.toInt32))] (.int (0 : Int32)) := p103_4
      have pv103_6 : Fld Z T103.heap kl_16 "java/util/ArrayList" "size" "I" (.int (2 : Int32)) := p103_6
      have pv103_7 : Fld Z T103.heap kl_16 "java/util/AbstractList" "modCount" "I" (.int (2 : Int32)) := p103_7
      have pv103_9 : Fld Z T103.heap wl_16 "java/util/ArrayList" "size" "I" (.int (2 : Int32)) := p103_9
      have pv103_10 : Fld Z T103.heap wl_16 "java/util/AbstractList" "modCount" "I" (.int (2 : Int32)) := p103_10
      have pv103_11 : Arv Z T103.heap ar1_22 kr1_22 (.object "java/lang/Object") (10 : Int32) [(.ref cc1_22), (.ref cc1_103), .null, .null, .null, .null, .null, .null, .null, .null] .null := p103_11
      have pv103_12 : Arv Z T103.heap ar2_22 kr2_22 (.object "java/lang/Object") (10 : Int32) [(.ref cc2_22), .null, .null, .null, .null, .null, .null, .null, .null, .null] .null := p103_12
      show Ga _ _ _ _ _ _ _ _ _ _ _ []
      refine g_aload X103 hx (hb hby at_108) rfl rfl rfl ?_
      refine g_aload X103 hx (hb hby at_110) rfl rfl rfl ?_
      refine g_aload X103 hx (hb hby at_112) rfl rfl rfl ?_
      refine g_iloadN X103 hx (hb hby at_114) rfl rfl ?_
      refine g_iconst X103 hx (r := (4 : Int32)) (hb hby at_115) rfl rfl ?_
      refine g_iand X103 hx (hb hby at_116) rfl rfl ?_
      by_cases hc117 : (p3 &&& (4 : Int32)) = (0 : Int32)
      · skip
        refine g_ifY X103 hx (q := 124) (hb hby at_117) (XT.i0_eq_t hc117) (by decide) (by decide) ?_
        refine g_iconst X103 hx (r := (0 : Int32)) (hb hby at_124) rfl rfl ?_
        have f113 : Fld Z T103.heap b12 "com/example/covering/covering/store/Batch" "keys" "Ljava/util/List;" (.ref kl_16) := (f104.keep kc103 (ninS ne_b12_kl_16 (ninS ne_b12_wl_16 (ninS ne_b12_ar1_22 (ninS ne_b12_ar2_22 nin0)))))
        have f114 : Fld Z T103.heap b12 "com/example/covering/covering/store/Batch" "values" "Ljava/util/List;" (.ref wl_16) := (f105.keep kc103 (ninS ne_b12_kl_16 (ninS ne_b12_wl_16 (ninS ne_b12_ar1_22 (ninS ne_b12_ar2_22 nin0)))))
        have f115 : Exa Z T103.heap b12 "com/example/covering/covering/store/Batch" := (f106.keep kc103)
        have f116 : Exa Z T103.heap b6 "[B" := ((((((A6.ext E8).wr W11).ext E12).keep kc16).keep kc22).keep kc103)
        have f117 : Arv Z T103.heap b6 ka6 .byte (0 : Int32) [] (.int (0 : Int32)) := (f110.keep kc103 (ninS ne_b6_kl_16 (ninS ne_b6_wl_16 (ninS ne_b6_ar1_22 (ninS ne_b6_ar2_22 nin0)))))
        have f118 : Exa Z T103.heap b8 "[B" := ((f26.keep kc22).keep kc103)
        have f119 : Arv Z T103.heap b8 ka8 .byte (1 : Int32) [(.int (p2.toInt8.toInt32))] (.int (0 : Int32)) := (f111.keep kc103 (ninS ne_b8_kl_16 (ninS ne_b8_wl_16 (ninS ne_b8_ar1_22 (ninS ne_b8_ar2_22 nin0)))))
        refine g_static X103 hx hZ hown (hw _ (List.mem_of_getElem? (i := 38) rfl)) (hw _ (List.mem_of_getElem? (i := 39) rfl)) (hw _ (List.mem_of_getElem? (i := 40) rfl)) (hw _ (List.mem_of_getElem? (i := 41) rfl)) (by decide) (rm_ladd1N l Z a0 hw b12 b6 ka6 (0 : Int32) [] kl_16 wl_16 (2 : Int32) (2 : Int32) ar1_22 kr1_22 ar2_22 kr2_22 (2 : Int32) [(.ref cc1_22), (.ref cc1_103), .null, .null, .null, .null, .null, .null, .null, .null] [(.ref cc2_22), .null, .null, .null, .null, .null, .null, .null, .null, .null] b8 ka8 (1 : Int32) [(.int (p2.toInt8.toInt32))] T103.heap n0 Z103 f113 f114 f115 p103_1 p103_2 g_kl_16 g_wl_16 p16_2 ne_b12_kl_16 ne_b12_wl_16 f116 f117 (by first | decide | assumption | rfl | (intro _; rfl)) p103_5 pv103_6 pv103_7 p103_8 pv103_9 pv103_10 pv103_11 pv103_12 p22_21 p22_22 g_ar1_22 g_ar2_22 p22_7 ne_b12_ar1_22 ne_b12_ar2_22 ne_kl_16_ar1_22 ne_kl_16_ar2_22 ne_wl_16_ar1_22 ne_wl_16_ar2_22 (by first | decide | assumption | rfl | (intro _; rfl)) (by first | decide | assumption | rfl | (intro _; rfl)) (by first | decide | assumption | rfl | (intro _; rfl)) (by first | decide | assumption | rfl | (intro _; rfl)) ne_b8_kl_16 ne_b8_ar1_22 f118 f119 (by first | decide | assumption | rfl | (intro _; rfl))) (by rw [hml]; rfl) rfl [(.ref b12), (.ref b6), (.ref b8), (.int (0 : Int32))] rfl rfl (W := 0) (Nat.le_of_eq rfl) (by decide) (by decide) (by decide) (by decide) (lenOf pd_10 rfl) (hb hby at_125) rfl fun v112 T112 L112 X112 hQ112 => ?_
        obtain ⟨cc1_112, cc2_112, rfl, Nq112, kc112, p112_0, p112_1, p112_2, p112_3, p112_4, p112_5, p112_6, p112_7, p112_8, p112_9, p112_10, p112_11, p112_12, p112_13, p112_14, p112_15⟩ := hQ112
        have N112 := Fr.app N103 Nq112
        have f120 : Arv Z T103.heap b1 ka1 .byte (2 : Int32) [(.int (p0.toInt8.toInt32)), (.int (((p0.toUInt32 >>> ((8 : Int32) &&& 31).toUInt32).toInt32).toInt8.toInt32))] (.int (0 : Int32)) := (f109.keep kc103 (ninS ne_b1_kl_16 (ninS ne_b1_wl_16 (ninS ne_b1_ar1_22 (ninS ne_b1_ar2_22 nin0)))))
        have f121 : Arv Z T103.heap b4 ka4 .byte (1 : Int32) [(.int (p1.toInt8.toInt32))] (.int (0 : Int32)) := (f108.keep kc103 (ninS ne_b4_kl_16 (ninS ne_b4_wl_16 (ninS ne_b4_ar1_22 (ninS ne_b4_ar2_22 nin0)))))
        have f122 : Exa Z T103.heap cc1_22 "[B" := (p22_12.keep kc103)
        have f123 : Exa Z T103.heap cc2_22 "[B" := (p22_14.keep kc103)
        have ne_ar1_22_cc1_112 : ar1_22 ≠ cc1_112 := own_neK pv103_11.lt p112_0
        have ne_ar2_22_cc1_112 : ar2_22 ≠ cc1_112 := own_neK pv103_12.lt p112_0
        have ne_b1_cc1_112 : b1 ≠ cc1_112 := own_neK f120.lt p112_0
        have ne_b12_cc1_112 : b12 ≠ cc1_112 := own_neK f115.lt p112_0
        have ne_b4_cc1_112 : b4 ≠ cc1_112 := own_neK f121.lt p112_0
        have ne_b6_cc1_112 : b6 ≠ cc1_112 := own_neK f117.lt p112_0
        have ne_b8_cc1_112 : b8 ≠ cc1_112 := own_neK f119.lt p112_0
        have ne_cc1_103_cc1_112 : cc1_103 ≠ cc1_112 := own_neK p103_3.lt p112_0
        have ne_cc1_22_cc1_112 : cc1_22 ≠ cc1_112 := own_neK f122.lt p112_0
        have ne_cc2_22_cc1_112 : cc2_22 ≠ cc1_112 := own_neK f123.lt p112_0
        have ne_kl_16_cc1_112 : kl_16 ≠ cc1_112 := own_neK p103_1.lt p112_0
        have ne_wl_16_cc1_112 : wl_16 ≠ cc1_112 := own_neK p103_2.lt p112_0
        have g_cc1_112 : n0 ≤ cc1_112 := Nat.le_trans Z103 p112_0
        have ne_ar1_22_cc2_112 : ar1_22 ≠ cc2_112 := own_neK pv103_11.lt p112_1
        have ne_ar2_22_cc2_112 : ar2_22 ≠ cc2_112 := own_neK pv103_12.lt p112_1
        have ne_b1_cc2_112 : b1 ≠ cc2_112 := own_neK f120.lt p112_1
        have ne_b12_cc2_112 : b12 ≠ cc2_112 := own_neK f115.lt p112_1
        have ne_b4_cc2_112 : b4 ≠ cc2_112 := own_neK f121.lt p112_1
        have ne_b6_cc2_112 : b6 ≠ cc2_112 := own_neK f117.lt p112_1
        have ne_b8_cc2_112 : b8 ≠ cc2_112 := own_neK f119.lt p112_1
        have ne_cc1_103_cc2_112 : cc1_103 ≠ cc2_112 := own_neK p103_3.lt p112_1
        have ne_cc1_22_cc2_112 : cc1_22 ≠ cc2_112 := own_neK f122.lt p112_1
        have ne_cc2_22_cc2_112 : cc2_22 ≠ cc2_112 := own_neK f123.lt p112_1
        have ne_kl_16_cc2_112 : kl_16 ≠ cc2_112 := own_neK p103_1.lt p112_1
        have ne_wl_16_cc2_112 : wl_16 ≠ cc2_112 := own_neK p103_2.lt p112_1
        have g_cc2_112 : n0 ≤ cc2_112 := Nat.le_trans Z103 p112_1
        have Z112 : n0 ≤ T112.heap.size := Nat.le_trans Z103 kc112.1
        have pv112_6 : Arv Z T112.heap cc1_112 ka6 .byte (0 : Int32) [] (.int (0 : Int32)) := p112_6
        have pv112_9 : Fld Z T112.heap kl_16 "java/util/ArrayList" "size" "I" (.int (3 : Int32)) := p112_9
        have pv112_10 : Fld Z T112.heap kl_16 "java/util/AbstractList" "modCount" "I" (.int (3 : Int32)) := p112_10
        have pv112_12 : Fld Z T112.heap wl_16 "java/util/ArrayList" "size" "I" (.int (3 : Int32)) := p112_12
        have pv112_13 : Fld Z T112.heap wl_16 "java/util/AbstractList" "modCount" "I" (.int (3 : Int32)) := p112_13
        have pv112_14 : Arv Z T112.heap ar1_22 kr1_22 (.object "java/lang/Object") (10 : Int32) [(.ref cc1_22), (.ref cc1_103), (.ref cc1_112), .null, .null, .null, .null, .null, .null, .null] .null := p112_14
        have pv112_15 : Arv Z T112.heap ar2_22 kr2_22 (.object "java/lang/Object") (10 : Int32) [(.ref cc2_22), .null, (.ref cc2_112), .null, .null, .null, .null, .null, .null, .null] .null := p112_15
        show Ga _ _ _ _ _ _ _ _ _ _ _ []
        refine g_aload X112 hx (hb hby at_128) rfl rfl rfl ?_
        refine g_iconst X112 hx (r := (0 : Int32)) (hb hby at_130) rfl rfl ?_
        refine g_aload X112 hx (hb hby at_131) rfl rfl rfl ?_
        refine g_iconst X112 hx (r := (0 : Int32)) (hb hby at_133) rfl rfl ?_
        have f124 : Arv Z T112.heap b1 ka1 .byte (2 : Int32) [(.int (p0.toInt8.toInt32)), (.int (((p0.toUInt32 >>> ((8 : Int32) &&& 31).toUInt32).toInt32).toInt8.toInt32))] (.int (0 : Int32)) := (f120.keep kc112 (ninS ne_b1_kl_16 (ninS ne_b1_wl_16 (ninS ne_b1_ar1_22 (ninS ne_b1_ar2_22 nin0)))))
        refine g_baload X112 hx hZ rfl f124 (v := (.int (p0.toInt8.toInt32))) ⟨by decide, by decide⟩ rfl (hb hby at_134) rfl ?_
        refine g_iconst X112 hx (r := (-1 : Int32)) (hb hby at_135) rfl rfl ?_
        refine g_ixor X112 hx (hb hby at_136) rfl rfl ?_
        refine g_i2b X112 hx (hb hby at_137) rfl rfl ?_
        refine g_bastore X112 hx hZ rfl f124 ⟨by decide, by decide⟩ (Nat.le_of_ble_eq_true rfl) (hb hby at_138) rfl fun T125 h125 X125 e125 W125 V125 => ?_
        rw [own_nar, own_bb] at V125
        have Vn125 : Arv Z h125 b1 ka1 .byte (2 : Int32) [(.int (((p0.toInt8.toInt32) ^^^ (-1 : Int32)).toInt8.toInt32)), (.int (((p0.toUInt32 >>> ((8 : Int32) &&& 31).toUInt32).toInt32).toInt8.toInt32))] (.int (0 : Int32)) := V125
        have N125 := Fr.snoc X125 N112 g_b1
        have Z125 : n0 ≤ h125.size := by rw [W125.size]; exact Z112
        refine g_aload X125 hx (hb hby at_139) rfl rfl rfl ?_
        refine g_iconst X125 hx (r := (1 : Int32)) (hb hby at_141) rfl rfl ?_
        refine g_aload X125 hx (hb hby at_142) rfl rfl rfl ?_
        refine g_iconst X125 hx (r := (1 : Int32)) (hb hby at_144) rfl rfl ?_
        refine g_baload X125 hx hZ e125 Vn125 (v := (.int (((p0.toUInt32 >>> ((8 : Int32) &&& 31).toUInt32).toInt32).toInt8.toInt32))) ⟨by decide, by decide⟩ rfl (hb hby at_145) rfl ?_
        refine g_iconst X125 hx (r := (-1 : Int32)) (hb hby at_146) rfl rfl ?_
        refine g_ixor X125 hx (hb hby at_147) rfl rfl ?_
        refine g_i2b X125 hx (hb hby at_148) rfl rfl ?_
        refine g_bastore X125 hx hZ e125 Vn125 ⟨by decide, by decide⟩ (Nat.le_of_ble_eq_true rfl) (hb hby at_149) rfl fun T126 h126 X126 e126 W126 V126 => ?_
        rw [own_nar, own_bb] at V126
        have Vn126 : Arv Z h126 b1 ka1 .byte (2 : Int32) [(.int (((p0.toInt8.toInt32) ^^^ (-1 : Int32)).toInt8.toInt32)), (.int (((((p0.toUInt32 >>> ((8 : Int32) &&& 31).toUInt32).toInt32).toInt8.toInt32) ^^^ (-1 : Int32)).toInt8.toInt32))] (.int (0 : Int32)) := V126
        have N126 := Fr.snoc X126 N125 g_b1
        have Z126 : n0 ≤ h126.size := by rw [W126.size]; exact Z125
        refine g_aload X126 hx (hb hby at_150) rfl rfl rfl ?_
        refine g_iconst X126 hx (r := (0 : Int32)) (hb hby at_152) rfl rfl ?_
        refine g_aload X126 hx (hb hby at_153) rfl rfl rfl ?_
        refine g_iconst X126 hx (r := (0 : Int32)) (hb hby at_155) rfl rfl ?_
        have f127 : Arv Z h126 b4 ka4 .byte (1 : Int32) [(.int (p1.toInt8.toInt32))] (.int (0 : Int32)) := (((f121.keep kc112 (ninS ne_b4_kl_16 (ninS ne_b4_wl_16 (ninS ne_b4_ar1_22 (ninS ne_b4_ar2_22 nin0))))).other W125 (Ne.symm ne_b1_b4)).other W126 (Ne.symm ne_b1_b4))
        refine g_baload X126 hx hZ e126 f127 (v := (.int (p1.toInt8.toInt32))) ⟨by decide, by decide⟩ rfl (hb hby at_156) rfl ?_
        refine g_iconst X126 hx (r := (-1 : Int32)) (hb hby at_157) rfl rfl ?_
        refine g_ixor X126 hx (hb hby at_158) rfl rfl ?_
        refine g_i2b X126 hx (hb hby at_159) rfl rfl ?_
        refine g_bastore X126 hx hZ e126 f127 ⟨by decide, by decide⟩ (Nat.le_of_ble_eq_true rfl) (hb hby at_160) rfl fun T128 h128 X128 e128 W128 V128 => ?_
        rw [own_nar, own_bb] at V128
        have Vn128 : Arv Z h128 b4 ka4 .byte (1 : Int32) [(.int (((p1.toInt8.toInt32) ^^^ (-1 : Int32)).toInt8.toInt32))] (.int (0 : Int32)) := V128
        have N128 := Fr.snoc X128 N126 g_b4
        have Z128 : n0 ≤ h128.size := by rw [W128.size]; exact Z126
        refine g_aload X128 hx (hb hby at_161) rfl rfl rfl ?_
        refine g_iconst X128 hx (r := (0 : Int32)) (hb hby at_163) rfl rfl ?_
        have f130 : Fld Z h128 b12 "com/example/covering/covering/store/Batch" "keys" "Ljava/util/List;" (.ref kl_16) := ((((f113.keep kc112 (ninS ne_b12_kl_16 (ninS ne_b12_wl_16 (ninS ne_b12_ar1_22 (ninS ne_b12_ar2_22 nin0))))).other W125 (Or.inl (Ne.symm ne_b1_b12))).other W126 (Or.inl (Ne.symm ne_b1_b12))).other W128 (Or.inl (Ne.symm ne_b4_b12)))
        have f131 : Fld Z h128 kl_16 "java/util/ArrayList" "size" "I" (.int (3 : Int32)) := (((pv112_9.other W125 (Or.inl (Ne.symm ne_b1_kl_16))).other W126 (Or.inl (Ne.symm ne_b1_kl_16))).other W128 (Or.inl (Ne.symm ne_b4_kl_16)))
        have f132 : Fld Z h128 kl_16 "java/util/ArrayList" "elementData" "[Ljava/lang/Object;" (.ref ar1_22) := (((p112_8.other W125 (Or.inl (Ne.symm ne_b1_kl_16))).other W126 (Or.inl (Ne.symm ne_b1_kl_16))).other W128 (Or.inl (Ne.symm ne_b4_kl_16)))
        have f133 : Arv Z h128 ar1_22 kr1_22 (.object "java/lang/Object") (10 : Int32) [(.ref cc1_22), (.ref cc1_103), (.ref cc1_112), .null, .null, .null, .null, .null, .null, .null] .null := (((pv112_14.other W125 (Ne.symm ne_b1_ar1_22)).other W126 (Ne.symm ne_b1_ar1_22)).other W128 (Ne.symm ne_b4_ar1_22))
        have f134 : Exa Z h128 kl_16 "java/util/ArrayList" := (((p112_3.wr W125).wr W126).wr W128)
        have f135 : Exa Z h128 cc1_22 "[B" := ((((f122.keep kc112).wr W125).wr W126).wr W128)
        have f136 : Exa Z h128 b12 "com/example/covering/covering/store/Batch" := ((((f115.keep kc112).wr W125).wr W126).wr W128)
        refine g_virtual X128 hx hZ hown (hw _ (List.mem_of_getElem? (i := 96) rfl)) (hw _ (List.mem_of_getElem? (i := 97) rfl)) (notFace_of_selects (args := #[]) (mvT hZ (hw _ (List.mem_of_getElem? (i := 99) rfl)))) (hw _ (List.mem_of_getElem? (i := 99) rfl)) (hw _ (List.mem_of_getElem? (i := 98) rfl)) (hw _ (List.mem_of_getElem? (i := 3) rfl)) (hw _ (List.mem_of_getElem? (i := 100) rfl)) (by decide) (a := b12) f136 (rm_key l Z a0 hw b12 kl_16 ar1_22 kr1_22 (3 : Int32) [(.ref cc1_22), (.ref cc1_103), (.ref cc1_112), .null, .null, .null, .null, .null, .null, .null] (0 : Int32) cc1_22 h128 n0 Z128 f130 f131 f132 f133 f134 (by first | decide | assumption | rfl | (intro _; rfl)) (by first | decide | assumption | rfl | (intro _; rfl)) (by first | decide | assumption | rfl | (intro _; rfl)) (by first | decide | assumption | rfl | (intro _; rfl)) (Ins.self f135)) (by rw [hml]; rfl) e128 [(.int (0 : Int32))] rfl rfl (W := 0) (Nat.le_of_eq rfl) (by decide) (by decide) (by decide) (by decide) (lenOf pd_11 rfl) (hb hby at_164) rfl fun v129 T129 L129 X129 hQ129 => ?_
        obtain ⟨rfl, Nq129, eh129⟩ := hQ129
        have N129 := Fr.app N128 Nq129
        show Ga _ _ _ _ _ _ _ _ _ _ _ [(.ref cc1_22)]
        refine g_astore X129 hx (Ls' := #[.val (.int p0), .val (.int p1), .val (.int p2), .val (.int p3), .val (.int (p0.toInt8.toInt32)), .val (.int (((p0.toUInt32 >>> ((8 : Int32) &&& 31).toUInt32).toInt32).toInt8.toInt32)), .val (.int (p1.toInt8.toInt32)), .val (.ref b1), .val (.ref b4), .val (.ref b6), .val (.ref b8), .val (.ref b12), .val (.ref cc1_22), .unset, .unset]) (hb hby at_167) rfl rfl rfl ?_
        refine g_aload X129 hx (hb hby at_169) rfl rfl rfl ?_
        refine g_iconst X129 hx (r := (1 : Int32)) (hb hby at_171) rfl rfl ?_
        have f138 : Exa Z h128 cc1_103 "[B" := ((((p103_3.keep kc112).wr W125).wr W126).wr W128)
        refine g_virtual X129 hx hZ hown (hw _ (List.mem_of_getElem? (i := 96) rfl)) (hw _ (List.mem_of_getElem? (i := 97) rfl)) (notFace_of_selects (args := #[]) (mvT hZ (hw _ (List.mem_of_getElem? (i := 99) rfl)))) (hw _ (List.mem_of_getElem? (i := 99) rfl)) (hw _ (List.mem_of_getElem? (i := 98) rfl)) (hw _ (List.mem_of_getElem? (i := 3) rfl)) (hw _ (List.mem_of_getElem? (i := 100) rfl)) (by decide) (a := b12) f136 (rm_key l Z a0 hw b12 kl_16 ar1_22 kr1_22 (3 : Int32) [(.ref cc1_22), (.ref cc1_103), (.ref cc1_112), .null, .null, .null, .null, .null, .null, .null] (1 : Int32) cc1_103 h128 n0 Z128 f130 f131 f132 f133 f134 (by first | decide | assumption | rfl | (intro _; rfl)) (by first | decide | assumption | rfl | (intro _; rfl)) (by first | decide | assumption | rfl | (intro _; rfl)) (by first | decide | assumption | rfl | (intro _; rfl)) (Ins.self f138)) (by rw [hml]; rfl) eh129 [(.int (1 : Int32))] rfl rfl (W := 0) (Nat.le_of_eq rfl) (by decide) (by decide) (by decide) (by decide) (lenOf pd_11 rfl) (hb hby at_172) rfl fun v137 T137 L137 X137 hQ137 => ?_
        obtain ⟨rfl, Nq137, eh137⟩ := hQ137
        have N137 := Fr.app N129 Nq137
        show Ga _ _ _ _ _ _ _ _ _ _ _ [(.ref cc1_103)]
        refine g_astore X137 hx (Ls' := #[.val (.int p0), .val (.int p1), .val (.int p2), .val (.int p3), .val (.int (p0.toInt8.toInt32)), .val (.int (((p0.toUInt32 >>> ((8 : Int32) &&& 31).toUInt32).toInt32).toInt8.toInt32)), .val (.int (p1.toInt8.toInt32)), .val (.ref b1), .val (.ref b4), .val (.ref b6), .val (.ref b8), .val (.ref b12), .val (.ref cc1_22), .val (.ref cc1_103), .unset]) (hb hby at_175) rfl rfl rfl ?_
        refine g_aload X137 hx (hb hby at_177) rfl rfl rfl ?_
        refine g_iconst X137 hx (r := (2 : Int32)) (hb hby at_179) rfl rfl ?_
        have f140 : Exa Z h128 cc1_112 "[B" := (((p112_5.wr W125).wr W126).wr W128)
        refine g_virtual X137 hx hZ hown (hw _ (List.mem_of_getElem? (i := 96) rfl)) (hw _ (List.mem_of_getElem? (i := 97) rfl)) (notFace_of_selects (args := #[]) (mvT hZ (hw _ (List.mem_of_getElem? (i := 99) rfl)))) (hw _ (List.mem_of_getElem? (i := 99) rfl)) (hw _ (List.mem_of_getElem? (i := 98) rfl)) (hw _ (List.mem_of_getElem? (i := 3) rfl)) (hw _ (List.mem_of_getElem? (i := 100) rfl)) (by decide) (a := b12) f136 (rm_key l Z a0 hw b12 kl_16 ar1_22 kr1_22 (3 : Int32) [(.ref cc1_22), (.ref cc1_103), (.ref cc1_112), .null, .null, .null, .null, .null, .null, .null] (2 : Int32) cc1_112 h128 n0 Z128 f130 f131 f132 f133 f134 (by first | decide | assumption | rfl | (intro _; rfl)) (by first | decide | assumption | rfl | (intro _; rfl)) (by first | decide | assumption | rfl | (intro _; rfl)) (by first | decide | assumption | rfl | (intro _; rfl)) (Ins.self f140)) (by rw [hml]; rfl) eh137 [(.int (2 : Int32))] rfl rfl (W := 0) (Nat.le_of_eq rfl) (by decide) (by decide) (by decide) (by decide) (lenOf pd_11 rfl) (hb hby at_180) rfl fun v139 T139 L139 X139 hQ139 => ?_
        obtain ⟨rfl, Nq139, eh139⟩ := hQ139
        have N139 := Fr.app N137 Nq139
        show Ga _ _ _ _ _ _ _ _ _ _ _ [(.ref cc1_112)]
        refine g_astore X139 hx (Ls' := #[.val (.int p0), .val (.int p1), .val (.int p2), .val (.int p3), .val (.int (p0.toInt8.toInt32)), .val (.int (((p0.toUInt32 >>> ((8 : Int32) &&& 31).toUInt32).toInt32).toInt8.toInt32)), .val (.int (p1.toInt8.toInt32)), .val (.ref b1), .val (.ref b4), .val (.ref b6), .val (.ref b8), .val (.ref b12), .val (.ref cc1_22), .val (.ref cc1_103), .val (.ref cc1_112)]) (hb hby at_183) rfl rfl rfl ?_
        refine g_aload X139 hx (hb hby at_185) rfl rfl rfl ?_
        refine g_ifnullN X139 hx (hb hby at_187) rfl  ?_
        refine g_aload X139 hx (hb hby at_190) rfl rfl rfl ?_
        refine g_ifnullN X139 hx (hb hby at_192) rfl  ?_
        refine g_aload X139 hx (hb hby at_195) rfl rfl rfl ?_
        refine g_ifnonnullY X139 hx (q := 202) (hb hby at_197) (by decide) (by decide) ?_
        refine g_aload X139 hx (hb hby at_202) rfl rfl rfl ?_
        have f141 : Arv Z h128 cc1_22 ka1 .byte (2 : Int32) [(.int (p0.toInt8.toInt32)), (.int (((p0.toUInt32 >>> ((8 : Int32) &&& 31).toUInt32).toInt32).toInt8.toInt32))] (.int (0 : Int32)) := (((((pv22_13.keep kc103 (ninS (Ne.symm ne_kl_16_cc1_22) (ninS (Ne.symm ne_wl_16_cc1_22) (ninS p22_4 (ninS p22_5 nin0))))).keep kc112 (ninS (Ne.symm ne_kl_16_cc1_22) (ninS (Ne.symm ne_wl_16_cc1_22) (ninS p22_4 (ninS p22_5 nin0))))).other W125 (Ne.symm ne_b1_cc1_22)).other W126 (Ne.symm ne_b1_cc1_22)).other W128 (Ne.symm ne_b4_cc1_22))
        refine g_len X139 hx hZ eh139 f141 (hb hby at_204) rfl ?_
        refine g_iconst X139 hx (r := (2 : Int32)) (hb hby at_205) rfl rfl ?_
        refine g_icmpN X139 hx (hb hby at_206) rfl (XT.ii_ne_f (by decide : (2 : Int32) = (2 : Int32))) ?_
        refine g_aload X139 hx (hb hby at_209) rfl rfl rfl ?_
        refine g_iconst X139 hx (r := (0 : Int32)) (hb hby at_211) rfl rfl ?_
        refine g_baload X139 hx hZ eh139 f141 (v := (.int (p0.toInt8.toInt32))) ⟨by decide, by decide⟩ rfl (hb hby at_212) rfl ?_
        refine g_iload X139 hx (hb hby at_213) rfl rfl ?_
        refine g_icmpN X139 hx (hb hby at_215) rfl (XT.ii_ne_f rfl) ?_
        refine g_aload X139 hx (hb hby at_218) rfl rfl rfl ?_
        refine g_iconst X139 hx (r := (1 : Int32)) (hb hby at_220) rfl rfl ?_
        refine g_baload X139 hx hZ eh139 f141 (v := (.int (((p0.toUInt32 >>> ((8 : Int32) &&& 31).toUInt32).toInt32).toInt8.toInt32))) ⟨by decide, by decide⟩ rfl (hb hby at_221) rfl ?_
        refine g_iload X139 hx (hb hby at_222) rfl rfl ?_
        refine g_icmpN X139 hx (hb hby at_224) rfl (XT.ii_ne_f rfl) ?_
        refine g_aload X139 hx (hb hby at_227) rfl rfl rfl ?_
        have f142 : Arv Z h128 cc1_103 ka4 .byte (1 : Int32) [(.int (p1.toInt8.toInt32))] (.int (0 : Int32)) := ((((pv103_4.keep kc112 (ninS (Ne.symm ne_kl_16_cc1_103) (ninS (Ne.symm ne_wl_16_cc1_103) (ninS (Ne.symm ne_ar1_22_cc1_103) (ninS (Ne.symm ne_ar2_22_cc1_103) nin0))))).other W125 (Ne.symm ne_b1_cc1_103)).other W126 (Ne.symm ne_b1_cc1_103)).other W128 (Ne.symm ne_b4_cc1_103))
        refine g_len X139 hx hZ eh139 f142 (hb hby at_229) rfl ?_
        refine g_iconst X139 hx (r := (1 : Int32)) (hb hby at_230) rfl rfl ?_
        refine g_icmpN X139 hx (hb hby at_231) rfl (XT.ii_ne_f (by decide : (1 : Int32) = (1 : Int32))) ?_
        refine g_aload X139 hx (hb hby at_234) rfl rfl rfl ?_
        refine g_iconst X139 hx (r := (0 : Int32)) (hb hby at_236) rfl rfl ?_
        refine g_baload X139 hx hZ eh139 f142 (v := (.int (p1.toInt8.toInt32))) ⟨by decide, by decide⟩ rfl (hb hby at_237) rfl ?_
        refine g_iload X139 hx (hb hby at_238) rfl rfl ?_
        refine g_icmpN X139 hx (hb hby at_240) rfl (XT.ii_ne_f rfl) ?_
        refine g_aload X139 hx (hb hby at_243) rfl rfl rfl ?_
        have f143 : Arv Z h128 cc1_112 ka6 .byte (0 : Int32) [] (.int (0 : Int32)) := (((pv112_6.other W125 (Ne.symm ne_b1_cc1_112)).other W126 (Ne.symm ne_b1_cc1_112)).other W128 (Ne.symm ne_b4_cc1_112))
        refine g_len X139 hx hZ eh139 f143 (hb hby at_245) rfl ?_
        refine g_ifN X139 hx (hb hby at_246) rfl (XT.i0_ne_f (by decide : (0 : Int32) = (0 : Int32))) ?_
        refine g_iconst X139 hx (r := (1 : Int32)) (hb hby at_249) rfl rfl ?_
        refine g_goto X139 hx (q := 254) (hb hby at_250) (by decide) (by decide) ?_
        exact g_retN X139 hx (t := .boolean) (r := (1 : Int32)) hret (by simp) hlk (hb hby at_254) rfl (by decide) (by decide) (by rw [eh139]; exact ⟨rfl, N139⟩)
      · skip
        refine g_ifN X103 hx (hb hby at_117) rfl (XT.i0_eq_f hc117) ?_
        refine g_iconst X103 hx (r := (1 : Int32)) (hb hby at_120) rfl rfl ?_
        refine g_goto X103 hx (q := 125) (hb hby at_121) (by decide) (by decide) ?_
        have f145 : Fld Z T103.heap b12 "com/example/covering/covering/store/Batch" "keys" "Ljava/util/List;" (.ref kl_16) := (f104.keep kc103 (ninS ne_b12_kl_16 (ninS ne_b12_wl_16 (ninS ne_b12_ar1_22 (ninS ne_b12_ar2_22 nin0)))))
        have f146 : Fld Z T103.heap b12 "com/example/covering/covering/store/Batch" "values" "Ljava/util/List;" (.ref wl_16) := (f105.keep kc103 (ninS ne_b12_kl_16 (ninS ne_b12_wl_16 (ninS ne_b12_ar1_22 (ninS ne_b12_ar2_22 nin0)))))
        have f147 : Exa Z T103.heap b12 "com/example/covering/covering/store/Batch" := (f106.keep kc103)
        have f148 : Exa Z T103.heap b6 "[B" := ((((((A6.ext E8).wr W11).ext E12).keep kc16).keep kc22).keep kc103)
        have f149 : Arv Z T103.heap b6 ka6 .byte (0 : Int32) [] (.int (0 : Int32)) := (f110.keep kc103 (ninS ne_b6_kl_16 (ninS ne_b6_wl_16 (ninS ne_b6_ar1_22 (ninS ne_b6_ar2_22 nin0)))))
        refine g_static X103 hx hZ hown (hw _ (List.mem_of_getElem? (i := 38) rfl)) (hw _ (List.mem_of_getElem? (i := 39) rfl)) (hw _ (List.mem_of_getElem? (i := 40) rfl)) (hw _ (List.mem_of_getElem? (i := 41) rfl)) (by decide) (rm_ladd0N l Z a0 hw b12 b6 ka6 (0 : Int32) [] kl_16 wl_16 (2 : Int32) (2 : Int32) ar1_22 kr1_22 ar2_22 kr2_22 (2 : Int32) [(.ref cc1_22), (.ref cc1_103), .null, .null, .null, .null, .null, .null, .null, .null] [(.ref cc2_22), .null, .null, .null, .null, .null, .null, .null, .null, .null] b8 T103.heap n0 Z103 f145 f146 f147 p103_1 p103_2 g_kl_16 g_wl_16 p16_2 ne_b12_kl_16 ne_b12_wl_16 f148 f149 (by first | decide | assumption | rfl | (intro _; rfl)) p103_5 pv103_6 pv103_7 p103_8 pv103_9 pv103_10 pv103_11 pv103_12 p22_21 p22_22 g_ar1_22 g_ar2_22 p22_7 ne_b12_ar1_22 ne_b12_ar2_22 ne_kl_16_ar1_22 ne_kl_16_ar2_22 ne_wl_16_ar1_22 ne_wl_16_ar2_22 (by first | decide | assumption | rfl | (intro _; rfl)) (by first | decide | assumption | rfl | (intro _; rfl)) (by first | decide | assumption | rfl | (intro _; rfl)) (by first | decide | assumption | rfl | (intro _; rfl))) (by rw [hml]; rfl) rfl [(.ref b12), (.ref b6), (.ref b8), (.int (1 : Int32))] rfl rfl (W := 0) (Nat.le_of_eq rfl) (by decide) (by decide) (by decide) (by decide) (lenOf pd_10 rfl) (hb hby at_125) rfl fun v144 T144 L144 X144 hQ144 => ?_
        obtain ⟨cc1_144, rfl, Nq144, kc144, p144_0, p144_1, p144_2, p144_3, p144_4, p144_5, p144_6, p144_7, p144_8, p144_9, p144_10, p144_11, p144_12⟩ := hQ144
        have N144 := Fr.app N103 Nq144
        have f150 : Arv Z T103.heap b1 ka1 .byte (2 : Int32) [(.int (p0.toInt8.toInt32)), (.int (((p0.toUInt32 >>> ((8 : Int32) &&& 31).toUInt32).toInt32).toInt8.toInt32))] (.int (0 : Int32)) := (f109.keep kc103 (ninS ne_b1_kl_16 (ninS ne_b1_wl_16 (ninS ne_b1_ar1_22 (ninS ne_b1_ar2_22 nin0)))))
        have f151 : Arv Z T103.heap b4 ka4 .byte (1 : Int32) [(.int (p1.toInt8.toInt32))] (.int (0 : Int32)) := (f108.keep kc103 (ninS ne_b4_kl_16 (ninS ne_b4_wl_16 (ninS ne_b4_ar1_22 (ninS ne_b4_ar2_22 nin0)))))
        have f152 : Arv Z T103.heap b8 ka8 .byte (1 : Int32) [(.int (p2.toInt8.toInt32))] (.int (0 : Int32)) := (f111.keep kc103 (ninS ne_b8_kl_16 (ninS ne_b8_wl_16 (ninS ne_b8_ar1_22 (ninS ne_b8_ar2_22 nin0)))))
        have f153 : Exa Z T103.heap cc1_22 "[B" := (p22_12.keep kc103)
        have f154 : Exa Z T103.heap cc2_22 "[B" := (p22_14.keep kc103)
        have ne_ar1_22_cc1_144 : ar1_22 ≠ cc1_144 := own_neK pv103_11.lt p144_0
        have ne_ar2_22_cc1_144 : ar2_22 ≠ cc1_144 := own_neK pv103_12.lt p144_0
        have ne_b1_cc1_144 : b1 ≠ cc1_144 := own_neK f150.lt p144_0
        have ne_b12_cc1_144 : b12 ≠ cc1_144 := own_neK f147.lt p144_0
        have ne_b4_cc1_144 : b4 ≠ cc1_144 := own_neK f151.lt p144_0
        have ne_b6_cc1_144 : b6 ≠ cc1_144 := own_neK f149.lt p144_0
        have ne_b8_cc1_144 : b8 ≠ cc1_144 := own_neK f152.lt p144_0
        have ne_cc1_103_cc1_144 : cc1_103 ≠ cc1_144 := own_neK p103_3.lt p144_0
        have ne_cc1_22_cc1_144 : cc1_22 ≠ cc1_144 := own_neK f153.lt p144_0
        have ne_cc2_22_cc1_144 : cc2_22 ≠ cc1_144 := own_neK f154.lt p144_0
        have ne_kl_16_cc1_144 : kl_16 ≠ cc1_144 := own_neK p103_1.lt p144_0
        have ne_wl_16_cc1_144 : wl_16 ≠ cc1_144 := own_neK p103_2.lt p144_0
        have g_cc1_144 : n0 ≤ cc1_144 := Nat.le_trans Z103 p144_0
        have Z144 : n0 ≤ T144.heap.size := Nat.le_trans Z103 kc144.1
        have pv144_4 : Arv Z T144.heap cc1_144 ka6 .byte (0 : Int32) [] (.int (0 : Int32)) := p144_4
        have pv144_6 : Fld Z T144.heap kl_16 "java/util/ArrayList" "size" "I" (.int (3 : Int32)) := p144_6
        have pv144_7 : Fld Z T144.heap kl_16 "java/util/AbstractList" "modCount" "I" (.int (3 : Int32)) := p144_7
        have pv144_9 : Fld Z T144.heap wl_16 "java/util/ArrayList" "size" "I" (.int (3 : Int32)) := p144_9
        have pv144_10 : Fld Z T144.heap wl_16 "java/util/AbstractList" "modCount" "I" (.int (3 : Int32)) := p144_10
        have pv144_11 : Arv Z T144.heap ar1_22 kr1_22 (.object "java/lang/Object") (10 : Int32) [(.ref cc1_22), (.ref cc1_103), (.ref cc1_144), .null, .null, .null, .null, .null, .null, .null] .null := p144_11
        have pv144_12 : Arv Z T144.heap ar2_22 kr2_22 (.object "java/lang/Object") (10 : Int32) [(.ref cc2_22), .null, .null, .null, .null, .null, .null, .null, .null, .null] .null := p144_12
        show Ga _ _ _ _ _ _ _ _ _ _ _ []
        refine g_aload X144 hx (hb hby at_128) rfl rfl rfl ?_
        refine g_iconst X144 hx (r := (0 : Int32)) (hb hby at_130) rfl rfl ?_
        refine g_aload X144 hx (hb hby at_131) rfl rfl rfl ?_
        refine g_iconst X144 hx (r := (0 : Int32)) (hb hby at_133) rfl rfl ?_
        have f155 : Arv Z T144.heap b1 ka1 .byte (2 : Int32) [(.int (p0.toInt8.toInt32)), (.int (((p0.toUInt32 >>> ((8 : Int32) &&& 31).toUInt32).toInt32).toInt8.toInt32))] (.int (0 : Int32)) := (f150.keep kc144 (ninS ne_b1_kl_16 (ninS ne_b1_wl_16 (ninS ne_b1_ar1_22 (ninS ne_b1_ar2_22 nin0)))))
        refine g_baload X144 hx hZ rfl f155 (v := (.int (p0.toInt8.toInt32))) ⟨by decide, by decide⟩ rfl (hb hby at_134) rfl ?_
        refine g_iconst X144 hx (r := (-1 : Int32)) (hb hby at_135) rfl rfl ?_
        refine g_ixor X144 hx (hb hby at_136) rfl rfl ?_
        refine g_i2b X144 hx (hb hby at_137) rfl rfl ?_
        refine g_bastore X144 hx hZ rfl f155 ⟨by decide, by decide⟩ (Nat.le_of_ble_eq_true rfl) (hb hby at_138) rfl fun T156 h156 X156 e156 W156 V156 => ?_
        rw [own_nar, own_bb] at V156
        have Vn156 : Arv Z h156 b1 ka1 .byte (2 : Int32) [(.int (((p0.toInt8.toInt32) ^^^ (-1 : Int32)).toInt8.toInt32)), (.int (((p0.toUInt32 >>> ((8 : Int32) &&& 31).toUInt32).toInt32).toInt8.toInt32))] (.int (0 : Int32)) := V156
        have N156 := Fr.snoc X156 N144 g_b1
        have Z156 : n0 ≤ h156.size := by rw [W156.size]; exact Z144
        refine g_aload X156 hx (hb hby at_139) rfl rfl rfl ?_
        refine g_iconst X156 hx (r := (1 : Int32)) (hb hby at_141) rfl rfl ?_
        refine g_aload X156 hx (hb hby at_142) rfl rfl rfl ?_
        refine g_iconst X156 hx (r := (1 : Int32)) (hb hby at_144) rfl rfl ?_
        refine g_baload X156 hx hZ e156 Vn156 (v := (.int (((p0.toUInt32 >>> ((8 : Int32) &&& 31).toUInt32).toInt32).toInt8.toInt32))) ⟨by decide, by decide⟩ rfl (hb hby at_145) rfl ?_
        refine g_iconst X156 hx (r := (-1 : Int32)) (hb hby at_146) rfl rfl ?_
        refine g_ixor X156 hx (hb hby at_147) rfl rfl ?_
        refine g_i2b X156 hx (hb hby at_148) rfl rfl ?_
        refine g_bastore X156 hx hZ e156 Vn156 ⟨by decide, by decide⟩ (Nat.le_of_ble_eq_true rfl) (hb hby at_149) rfl fun T157 h157 X157 e157 W157 V157 => ?_
        rw [own_nar, own_bb] at V157
        have Vn157 : Arv Z h157 b1 ka1 .byte (2 : Int32) [(.int (((p0.toInt8.toInt32) ^^^ (-1 : Int32)).toInt8.toInt32)), (.int (((((p0.toUInt32 >>> ((8 : Int32) &&& 31).toUInt32).toInt32).toInt8.toInt32) ^^^ (-1 : Int32)).toInt8.toInt32))] (.int (0 : Int32)) := V157
        have N157 := Fr.snoc X157 N156 g_b1
        have Z157 : n0 ≤ h157.size := by rw [W157.size]; exact Z156
        refine g_aload X157 hx (hb hby at_150) rfl rfl rfl ?_
        refine g_iconst X157 hx (r := (0 : Int32)) (hb hby at_152) rfl rfl ?_
        refine g_aload X157 hx (hb hby at_153) rfl rfl rfl ?_
        refine g_iconst X157 hx (r := (0 : Int32)) (hb hby at_155) rfl rfl ?_
        have f158 : Arv Z h157 b4 ka4 .byte (1 : Int32) [(.int (p1.toInt8.toInt32))] (.int (0 : Int32)) := (((f151.keep kc144 (ninS ne_b4_kl_16 (ninS ne_b4_wl_16 (ninS ne_b4_ar1_22 (ninS ne_b4_ar2_22 nin0))))).other W156 (Ne.symm ne_b1_b4)).other W157 (Ne.symm ne_b1_b4))
        refine g_baload X157 hx hZ e157 f158 (v := (.int (p1.toInt8.toInt32))) ⟨by decide, by decide⟩ rfl (hb hby at_156) rfl ?_
        refine g_iconst X157 hx (r := (-1 : Int32)) (hb hby at_157) rfl rfl ?_
        refine g_ixor X157 hx (hb hby at_158) rfl rfl ?_
        refine g_i2b X157 hx (hb hby at_159) rfl rfl ?_
        refine g_bastore X157 hx hZ e157 f158 ⟨by decide, by decide⟩ (Nat.le_of_ble_eq_true rfl) (hb hby at_160) rfl fun T159 h159 X159 e159 W159 V159 => ?_
        rw [own_nar, own_bb] at V159
        have Vn159 : Arv Z h159 b4 ka4 .byte (1 : Int32) [(.int (((p1.toInt8.toInt32) ^^^ (-1 : Int32)).toInt8.toInt32))] (.int (0 : Int32)) := V159
        have N159 := Fr.snoc X159 N157 g_b4
        have Z159 : n0 ≤ h159.size := by rw [W159.size]; exact Z157
        refine g_aload X159 hx (hb hby at_161) rfl rfl rfl ?_
        refine g_iconst X159 hx (r := (0 : Int32)) (hb hby at_163) rfl rfl ?_
        have f161 : Fld Z h159 b12 "com/example/covering/covering/store/Batch" "keys" "Ljava/util/List;" (.ref kl_16) := ((((f145.keep kc144 (ninS ne_b12_kl_16 (ninS ne_b12_wl_16 (ninS ne_b12_ar1_22 (ninS ne_b12_ar2_22 nin0))))).other W156 (Or.inl (Ne.symm ne_b1_b12))).other W157 (Or.inl (Ne.symm ne_b1_b12))).other W159 (Or.inl (Ne.symm ne_b4_b12)))
        have f162 : Fld Z h159 kl_16 "java/util/ArrayList" "size" "I" (.int (3 : Int32)) := (((pv144_6.other W156 (Or.inl (Ne.symm ne_b1_kl_16))).other W157 (Or.inl (Ne.symm ne_b1_kl_16))).other W159 (Or.inl (Ne.symm ne_b4_kl_16)))
        have f163 : Fld Z h159 kl_16 "java/util/ArrayList" "elementData" "[Ljava/lang/Object;" (.ref ar1_22) := (((p144_5.other W156 (Or.inl (Ne.symm ne_b1_kl_16))).other W157 (Or.inl (Ne.symm ne_b1_kl_16))).other W159 (Or.inl (Ne.symm ne_b4_kl_16)))
        have f164 : Arv Z h159 ar1_22 kr1_22 (.object "java/lang/Object") (10 : Int32) [(.ref cc1_22), (.ref cc1_103), (.ref cc1_144), .null, .null, .null, .null, .null, .null, .null] .null := (((pv144_11.other W156 (Ne.symm ne_b1_ar1_22)).other W157 (Ne.symm ne_b1_ar1_22)).other W159 (Ne.symm ne_b4_ar1_22))
        have f165 : Exa Z h159 kl_16 "java/util/ArrayList" := (((p144_1.wr W156).wr W157).wr W159)
        have f166 : Exa Z h159 cc1_22 "[B" := ((((f153.keep kc144).wr W156).wr W157).wr W159)
        have f167 : Exa Z h159 b12 "com/example/covering/covering/store/Batch" := ((((f147.keep kc144).wr W156).wr W157).wr W159)
        refine g_virtual X159 hx hZ hown (hw _ (List.mem_of_getElem? (i := 96) rfl)) (hw _ (List.mem_of_getElem? (i := 97) rfl)) (notFace_of_selects (args := #[]) (mvT hZ (hw _ (List.mem_of_getElem? (i := 99) rfl)))) (hw _ (List.mem_of_getElem? (i := 99) rfl)) (hw _ (List.mem_of_getElem? (i := 98) rfl)) (hw _ (List.mem_of_getElem? (i := 3) rfl)) (hw _ (List.mem_of_getElem? (i := 100) rfl)) (by decide) (a := b12) f167 (rm_key l Z a0 hw b12 kl_16 ar1_22 kr1_22 (3 : Int32) [(.ref cc1_22), (.ref cc1_103), (.ref cc1_144), .null, .null, .null, .null, .null, .null, .null] (0 : Int32) cc1_22 h159 n0 Z159 f161 f162 f163 f164 f165 (by first | decide | assumption | rfl | (intro _; rfl)) (by first | decide | assumption | rfl | (intro _; rfl)) (by first | decide | assumption | rfl | (intro _; rfl)) (by first | decide | assumption | rfl | (intro _; rfl)) (Ins.self f166)) (by rw [hml]; rfl) e159 [(.int (0 : Int32))] rfl rfl (W := 0) (Nat.le_of_eq rfl) (by decide) (by decide) (by decide) (by decide) (lenOf pd_11 rfl) (hb hby at_164) rfl fun v160 T160 L160 X160 hQ160 => ?_
        obtain ⟨rfl, Nq160, eh160⟩ := hQ160
        have N160 := Fr.app N159 Nq160
        show Ga _ _ _ _ _ _ _ _ _ _ _ [(.ref cc1_22)]
        refine g_astore X160 hx (Ls' := #[.val (.int p0), .val (.int p1), .val (.int p2), .val (.int p3), .val (.int (p0.toInt8.toInt32)), .val (.int (((p0.toUInt32 >>> ((8 : Int32) &&& 31).toUInt32).toInt32).toInt8.toInt32)), .val (.int (p1.toInt8.toInt32)), .val (.ref b1), .val (.ref b4), .val (.ref b6), .val (.ref b8), .val (.ref b12), .val (.ref cc1_22), .unset, .unset]) (hb hby at_167) rfl rfl rfl ?_
        refine g_aload X160 hx (hb hby at_169) rfl rfl rfl ?_
        refine g_iconst X160 hx (r := (1 : Int32)) (hb hby at_171) rfl rfl ?_
        have f169 : Exa Z h159 cc1_103 "[B" := ((((p103_3.keep kc144).wr W156).wr W157).wr W159)
        refine g_virtual X160 hx hZ hown (hw _ (List.mem_of_getElem? (i := 96) rfl)) (hw _ (List.mem_of_getElem? (i := 97) rfl)) (notFace_of_selects (args := #[]) (mvT hZ (hw _ (List.mem_of_getElem? (i := 99) rfl)))) (hw _ (List.mem_of_getElem? (i := 99) rfl)) (hw _ (List.mem_of_getElem? (i := 98) rfl)) (hw _ (List.mem_of_getElem? (i := 3) rfl)) (hw _ (List.mem_of_getElem? (i := 100) rfl)) (by decide) (a := b12) f167 (rm_key l Z a0 hw b12 kl_16 ar1_22 kr1_22 (3 : Int32) [(.ref cc1_22), (.ref cc1_103), (.ref cc1_144), .null, .null, .null, .null, .null, .null, .null] (1 : Int32) cc1_103 h159 n0 Z159 f161 f162 f163 f164 f165 (by first | decide | assumption | rfl | (intro _; rfl)) (by first | decide | assumption | rfl | (intro _; rfl)) (by first | decide | assumption | rfl | (intro _; rfl)) (by first | decide | assumption | rfl | (intro _; rfl)) (Ins.self f169)) (by rw [hml]; rfl) eh160 [(.int (1 : Int32))] rfl rfl (W := 0) (Nat.le_of_eq rfl) (by decide) (by decide) (by decide) (by decide) (lenOf pd_11 rfl) (hb hby at_172) rfl fun v168 T168 L168 X168 hQ168 => ?_
        obtain ⟨rfl, Nq168, eh168⟩ := hQ168
        have N168 := Fr.app N160 Nq168
        show Ga _ _ _ _ _ _ _ _ _ _ _ [(.ref cc1_103)]
        refine g_astore X168 hx (Ls' := #[.val (.int p0), .val (.int p1), .val (.int p2), .val (.int p3), .val (.int (p0.toInt8.toInt32)), .val (.int (((p0.toUInt32 >>> ((8 : Int32) &&& 31).toUInt32).toInt32).toInt8.toInt32)), .val (.int (p1.toInt8.toInt32)), .val (.ref b1), .val (.ref b4), .val (.ref b6), .val (.ref b8), .val (.ref b12), .val (.ref cc1_22), .val (.ref cc1_103), .unset]) (hb hby at_175) rfl rfl rfl ?_
        refine g_aload X168 hx (hb hby at_177) rfl rfl rfl ?_
        refine g_iconst X168 hx (r := (2 : Int32)) (hb hby at_179) rfl rfl ?_
        have f171 : Exa Z h159 cc1_144 "[B" := (((p144_3.wr W156).wr W157).wr W159)
        refine g_virtual X168 hx hZ hown (hw _ (List.mem_of_getElem? (i := 96) rfl)) (hw _ (List.mem_of_getElem? (i := 97) rfl)) (notFace_of_selects (args := #[]) (mvT hZ (hw _ (List.mem_of_getElem? (i := 99) rfl)))) (hw _ (List.mem_of_getElem? (i := 99) rfl)) (hw _ (List.mem_of_getElem? (i := 98) rfl)) (hw _ (List.mem_of_getElem? (i := 3) rfl)) (hw _ (List.mem_of_getElem? (i := 100) rfl)) (by decide) (a := b12) f167 (rm_key l Z a0 hw b12 kl_16 ar1_22 kr1_22 (3 : Int32) [(.ref cc1_22), (.ref cc1_103), (.ref cc1_144), .null, .null, .null, .null, .null, .null, .null] (2 : Int32) cc1_144 h159 n0 Z159 f161 f162 f163 f164 f165 (by first | decide | assumption | rfl | (intro _; rfl)) (by first | decide | assumption | rfl | (intro _; rfl)) (by first | decide | assumption | rfl | (intro _; rfl)) (by first | decide | assumption | rfl | (intro _; rfl)) (Ins.self f171)) (by rw [hml]; rfl) eh168 [(.int (2 : Int32))] rfl rfl (W := 0) (Nat.le_of_eq rfl) (by decide) (by decide) (by decide) (by decide) (lenOf pd_11 rfl) (hb hby at_180) rfl fun v170 T170 L170 X170 hQ170 => ?_
        obtain ⟨rfl, Nq170, eh170⟩ := hQ170
        have N170 := Fr.app N168 Nq170
        show Ga _ _ _ _ _ _ _ _ _ _ _ [(.ref cc1_144)]
        refine g_astore X170 hx (Ls' := #[.val (.int p0), .val (.int p1), .val (.int p2), .val (.int p3), .val (.int (p0.toInt8.toInt32)), .val (.int (((p0.toUInt32 >>> ((8 : Int32) &&& 31).toUInt32).toInt32).toInt8.toInt32)), .val (.int (p1.toInt8.toInt32)), .val (.ref b1), .val (.ref b4), .val (.ref b6), .val (.ref b8), .val (.ref b12), .val (.ref cc1_22), .val (.ref cc1_103), .val (.ref cc1_144)]) (hb hby at_183) rfl rfl rfl ?_
        refine g_aload X170 hx (hb hby at_185) rfl rfl rfl ?_
        refine g_ifnullN X170 hx (hb hby at_187) rfl  ?_
        refine g_aload X170 hx (hb hby at_190) rfl rfl rfl ?_
        refine g_ifnullN X170 hx (hb hby at_192) rfl  ?_
        refine g_aload X170 hx (hb hby at_195) rfl rfl rfl ?_
        refine g_ifnonnullY X170 hx (q := 202) (hb hby at_197) (by decide) (by decide) ?_
        refine g_aload X170 hx (hb hby at_202) rfl rfl rfl ?_
        have f172 : Arv Z h159 cc1_22 ka1 .byte (2 : Int32) [(.int (p0.toInt8.toInt32)), (.int (((p0.toUInt32 >>> ((8 : Int32) &&& 31).toUInt32).toInt32).toInt8.toInt32))] (.int (0 : Int32)) := (((((pv22_13.keep kc103 (ninS (Ne.symm ne_kl_16_cc1_22) (ninS (Ne.symm ne_wl_16_cc1_22) (ninS p22_4 (ninS p22_5 nin0))))).keep kc144 (ninS (Ne.symm ne_kl_16_cc1_22) (ninS (Ne.symm ne_wl_16_cc1_22) (ninS p22_4 (ninS p22_5 nin0))))).other W156 (Ne.symm ne_b1_cc1_22)).other W157 (Ne.symm ne_b1_cc1_22)).other W159 (Ne.symm ne_b4_cc1_22))
        refine g_len X170 hx hZ eh170 f172 (hb hby at_204) rfl ?_
        refine g_iconst X170 hx (r := (2 : Int32)) (hb hby at_205) rfl rfl ?_
        refine g_icmpN X170 hx (hb hby at_206) rfl (XT.ii_ne_f (by decide : (2 : Int32) = (2 : Int32))) ?_
        refine g_aload X170 hx (hb hby at_209) rfl rfl rfl ?_
        refine g_iconst X170 hx (r := (0 : Int32)) (hb hby at_211) rfl rfl ?_
        refine g_baload X170 hx hZ eh170 f172 (v := (.int (p0.toInt8.toInt32))) ⟨by decide, by decide⟩ rfl (hb hby at_212) rfl ?_
        refine g_iload X170 hx (hb hby at_213) rfl rfl ?_
        refine g_icmpN X170 hx (hb hby at_215) rfl (XT.ii_ne_f rfl) ?_
        refine g_aload X170 hx (hb hby at_218) rfl rfl rfl ?_
        refine g_iconst X170 hx (r := (1 : Int32)) (hb hby at_220) rfl rfl ?_
        refine g_baload X170 hx hZ eh170 f172 (v := (.int (((p0.toUInt32 >>> ((8 : Int32) &&& 31).toUInt32).toInt32).toInt8.toInt32))) ⟨by decide, by decide⟩ rfl (hb hby at_221) rfl ?_
        refine g_iload X170 hx (hb hby at_222) rfl rfl ?_
        refine g_icmpN X170 hx (hb hby at_224) rfl (XT.ii_ne_f rfl) ?_
        refine g_aload X170 hx (hb hby at_227) rfl rfl rfl ?_
        have f173 : Arv Z h159 cc1_103 ka4 .byte (1 : Int32) [(.int (p1.toInt8.toInt32))] (.int (0 : Int32)) := ((((pv103_4.keep kc144 (ninS (Ne.symm ne_kl_16_cc1_103) (ninS (Ne.symm ne_wl_16_cc1_103) (ninS (Ne.symm ne_ar1_22_cc1_103) (ninS (Ne.symm ne_ar2_22_cc1_103) nin0))))).other W156 (Ne.symm ne_b1_cc1_103)).other W157 (Ne.symm ne_b1_cc1_103)).other W159 (Ne.symm ne_b4_cc1_103))
        refine g_len X170 hx hZ eh170 f173 (hb hby at_229) rfl ?_
        refine g_iconst X170 hx (r := (1 : Int32)) (hb hby at_230) rfl rfl ?_
        refine g_icmpN X170 hx (hb hby at_231) rfl (XT.ii_ne_f (by decide : (1 : Int32) = (1 : Int32))) ?_
        refine g_aload X170 hx (hb hby at_234) rfl rfl rfl ?_
        refine g_iconst X170 hx (r := (0 : Int32)) (hb hby at_236) rfl rfl ?_
        refine g_baload X170 hx hZ eh170 f173 (v := (.int (p1.toInt8.toInt32))) ⟨by decide, by decide⟩ rfl (hb hby at_237) rfl ?_
        refine g_iload X170 hx (hb hby at_238) rfl rfl ?_
        refine g_icmpN X170 hx (hb hby at_240) rfl (XT.ii_ne_f rfl) ?_
        refine g_aload X170 hx (hb hby at_243) rfl rfl rfl ?_
        have f174 : Arv Z h159 cc1_144 ka6 .byte (0 : Int32) [] (.int (0 : Int32)) := (((pv144_4.other W156 (Ne.symm ne_b1_cc1_144)).other W157 (Ne.symm ne_b1_cc1_144)).other W159 (Ne.symm ne_b4_cc1_144))
        refine g_len X170 hx hZ eh170 f174 (hb hby at_245) rfl ?_
        refine g_ifN X170 hx (hb hby at_246) rfl (XT.i0_ne_f (by decide : (0 : Int32) = (0 : Int32))) ?_
        refine g_iconst X170 hx (r := (1 : Int32)) (hb hby at_249) rfl rfl ?_
        refine g_goto X170 hx (q := 254) (hb hby at_250) (by decide) (by decide) ?_
        exact g_retN X170 hx (t := .boolean) (r := (1 : Int32)) hret (by simp) hlk (hb hby at_254) rfl (by decide) (by decide) (by rw [eh170]; exact ⟨rfl, N170⟩)
  · skip
    refine g_ifN X16 hx (hb hby at_77) rfl (XT.i0_eq_f hc77) ?_
    refine g_iconst X16 hx (r := (1 : Int32)) (hb hby at_80) rfl rfl ?_
    refine g_goto X16 hx (q := 85) (hb hby at_81) (by decide) (by decide) ?_
    have f176 : Exa Z T16.heap b1 "[B" := (((((((((A1.wr W2).wr W3).ext E4).wr W5).ext E6).ext E8).wr W11).ext E12).keep kc16)
    have f177 : Arv Z T16.heap b1 ka1 .byte (2 : Int32) [(.int (p0.toInt8.toInt32)), (.int (((p0.toUInt32 >>> ((8 : Int32) &&& 31).toUInt32).toInt32).toInt8.toInt32))] (.int (0 : Int32)) := (f18.keep kc16 (ninS ne_b1_b12 nin0))
    have f178 : Old Z n0 T16.heap := (f17.keep kc16 (allS g_b12 all0))
    refine g_static X16 hx hZ hown (hw _ (List.mem_of_getElem? (i := 38) rfl)) (hw _ (List.mem_of_getElem? (i := 39) rfl)) (hw _ (List.mem_of_getElem? (i := 40) rfl)) (hw _ (List.mem_of_getElem? (i := 41) rfl)) (by decide) (rm_ladd0F l Z a0 hw b12 b1 ka1 (2 : Int32) [(.int (p0.toInt8.toInt32)), (.int (((p0.toUInt32 >>> ((8 : Int32) &&& 31).toUInt32).toInt32).toInt8.toInt32))] kl_16 wl_16 (0 : Int32) (0 : Int32) d0 kd b8 T16.heap n0 Z16 p16_4 p16_5 p16_3 p16_6 p16_7 g_kl_16 g_wl_16 p16_2 ne_b12_kl_16 ne_b12_wl_16 f176 f177 (by first | decide | assumption | rfl | (intro _; rfl)) p16_8 p16_9 p16_10 p16_11 p16_12 p16_13 f178 S0_DEFAULTCAPACITY_EMPTY_ELEMENTDATA V0_d0) (by rw [hml]; rfl) rfl [(.ref b12), (.ref b1), (.ref b8), (.int (1 : Int32))] rfl rfl (W := 0) (Nat.le_of_eq rfl) (by decide) (by decide) (by decide) (by decide) (lenOf pd_10 rfl) (hb hby at_85) rfl fun v175 T175 L175 X175 hQ175 => ?_
    obtain ⟨cc1_175, ar1_175, kr1_175, ar2_175, kr2_175, rfl, Nq175, kc175, p175_0, p175_1, p175_2, p175_3, p175_4, p175_5, p175_6, p175_7, p175_8, p175_9, p175_10, p175_11, p175_12, p175_13, p175_14, p175_15, p175_16, p175_17, p175_18, p175_19⟩ := hQ175
    have N175 := Fr.app N16 Nq175
    have f179 : Arv Z T16.heap b4 ka4 .byte (1 : Int32) [(.int (p1.toInt8.toInt32))] (.int (0 : Int32)) := (f19.keep kc16 (ninS ne_b4_b12 nin0))
    have f180 : Arv Z T16.heap b6 ka6 .byte (0 : Int32) [] (.int (0 : Int32)) := (f20.keep kc16 (ninS ne_b6_b12 nin0))
    have f181 : Arv Z T16.heap b8 ka8 .byte (1 : Int32) [(.int (p2.toInt8.toInt32))] (.int (0 : Int32)) := (f21.keep kc16 (ninS ne_b8_b12 nin0))
    have ne_b1_cc1_175 : b1 ≠ cc1_175 := own_neK f177.lt p175_0
    have ne_b12_cc1_175 : b12 ≠ cc1_175 := own_neK p16_3.lt p175_0
    have ne_b4_cc1_175 : b4 ≠ cc1_175 := own_neK f179.lt p175_0
    have ne_b6_cc1_175 : b6 ≠ cc1_175 := own_neK f180.lt p175_0
    have ne_b8_cc1_175 : b8 ≠ cc1_175 := own_neK f181.lt p175_0
    have ne_kl_16_cc1_175 : kl_16 ≠ cc1_175 := own_neK p16_6.lt p175_0
    have ne_wl_16_cc1_175 : wl_16 ≠ cc1_175 := own_neK p16_7.lt p175_0
    have g_cc1_175 : n0 ≤ cc1_175 := Nat.le_trans Z16 p175_0
    have ne_b1_ar1_175 : b1 ≠ ar1_175 := own_neK f177.lt p175_1
    have ne_b12_ar1_175 : b12 ≠ ar1_175 := own_neK p16_3.lt p175_1
    have ne_b4_ar1_175 : b4 ≠ ar1_175 := own_neK f179.lt p175_1
    have ne_b6_ar1_175 : b6 ≠ ar1_175 := own_neK f180.lt p175_1
    have ne_b8_ar1_175 : b8 ≠ ar1_175 := own_neK f181.lt p175_1
    have ne_kl_16_ar1_175 : kl_16 ≠ ar1_175 := own_neK p16_6.lt p175_1
    have ne_wl_16_ar1_175 : wl_16 ≠ ar1_175 := own_neK p16_7.lt p175_1
    have g_ar1_175 : n0 ≤ ar1_175 := Nat.le_trans Z16 p175_1
    have ne_b1_ar2_175 : b1 ≠ ar2_175 := own_neK f177.lt p175_2
    have ne_b12_ar2_175 : b12 ≠ ar2_175 := own_neK p16_3.lt p175_2
    have ne_b4_ar2_175 : b4 ≠ ar2_175 := own_neK f179.lt p175_2
    have ne_b6_ar2_175 : b6 ≠ ar2_175 := own_neK f180.lt p175_2
    have ne_b8_ar2_175 : b8 ≠ ar2_175 := own_neK f181.lt p175_2
    have ne_kl_16_ar2_175 : kl_16 ≠ ar2_175 := own_neK p16_6.lt p175_2
    have ne_wl_16_ar2_175 : wl_16 ≠ ar2_175 := own_neK p16_7.lt p175_2
    have g_ar2_175 : n0 ≤ ar2_175 := Nat.le_trans Z16 p175_2
    have Z175 : n0 ≤ T175.heap.size := Nat.le_trans Z16 kc175.1
    have pv175_9 : Arv Z T175.heap cc1_175 ka1 .byte (2 : Int32) [(.int (p0.toInt8.toInt32)), (.int (((p0.toUInt32 >>> ((8 : Int32) &&& 31).toUInt32).toInt32).toInt8.toInt32))] (.int (0 : Int32)) := p175_9
    have pv175_12 : Fld Z T175.heap kl_16 "java/util/AbstractList" "modCount" "I" (.int (1 : Int32)) := p175_12
    have pv175_15 : Fld Z T175.heap wl_16 "java/util/AbstractList" "modCount" "I" (.int (1 : Int32)) := p175_15
    have pv175_18 : Arv Z T175.heap ar1_175 kr1_175 (.object "java/lang/Object") (10 : Int32) [(.ref cc1_175), .null, .null, .null, .null, .null, .null, .null, .null, .null] .null := p175_18
    have pv175_19 : Arv Z T175.heap ar2_175 kr2_175 (.object "java/lang/Object") (10 : Int32) [.null, .null, .null, .null, .null, .null, .null, .null, .null, .null] .null := p175_19
    show Ga _ _ _ _ _ _ _ _ _ _ _ []
    refine g_aload X175 hx (hb hby at_88) rfl rfl rfl ?_
    refine g_aload X175 hx (hb hby at_90) rfl rfl rfl ?_
    refine g_aload X175 hx (hb hby at_92) rfl rfl rfl ?_
    refine g_iloadN X175 hx (hb hby at_94) rfl rfl ?_
    refine g_iconst X175 hx (r := (2 : Int32)) (hb hby at_95) rfl rfl ?_
    refine g_iand X175 hx (hb hby at_96) rfl rfl ?_
    by_cases hc97 : (p3 &&& (2 : Int32)) = (0 : Int32)
    · skip
      refine g_ifY X175 hx (q := 104) (hb hby at_97) (XT.i0_eq_t hc97) (by decide) (by decide) ?_
      refine g_iconst X175 hx (r := (0 : Int32)) (hb hby at_104) rfl rfl ?_
      have f183 : Fld Z T175.heap b12 "com/example/covering/covering/store/Batch" "keys" "Ljava/util/List;" (.ref kl_16) := (p16_4.keep kc175 (ninS ne_b12_kl_16 (ninS ne_b12_wl_16 nin0)))
      have f184 : Fld Z T175.heap b12 "com/example/covering/covering/store/Batch" "values" "Ljava/util/List;" (.ref wl_16) := (p16_5.keep kc175 (ninS ne_b12_kl_16 (ninS ne_b12_wl_16 nin0)))
      have f185 : Exa Z T175.heap b12 "com/example/covering/covering/store/Batch" := (p16_3.keep kc175)
      have f186 : Exa Z T175.heap b4 "[B" := (((((((A4.wr W5).ext E6).ext E8).wr W11).ext E12).keep kc16).keep kc175)
      have f187 : Arv Z T175.heap b4 ka4 .byte (1 : Int32) [(.int (p1.toInt8.toInt32))] (.int (0 : Int32)) := (f179.keep kc175 (ninS ne_b4_kl_16 (ninS ne_b4_wl_16 nin0)))
      have f188 : Exa Z T175.heap b8 "[B" := ((((A8.wr W11).ext E12).keep kc16).keep kc175)
      have f189 : Arv Z T175.heap b8 ka8 .byte (1 : Int32) [(.int (p2.toInt8.toInt32))] (.int (0 : Int32)) := (f181.keep kc175 (ninS ne_b8_kl_16 (ninS ne_b8_wl_16 nin0)))
      refine g_static X175 hx hZ hown (hw _ (List.mem_of_getElem? (i := 38) rfl)) (hw _ (List.mem_of_getElem? (i := 39) rfl)) (hw _ (List.mem_of_getElem? (i := 40) rfl)) (hw _ (List.mem_of_getElem? (i := 41) rfl)) (by decide) (rm_ladd1N l Z a0 hw b12 b4 ka4 (1 : Int32) [(.int (p1.toInt8.toInt32))] kl_16 wl_16 (1 : Int32) (1 : Int32) ar1_175 kr1_175 ar2_175 kr2_175 (1 : Int32) [(.ref cc1_175), .null, .null, .null, .null, .null, .null, .null, .null, .null] [.null, .null, .null, .null, .null, .null, .null, .null, .null, .null] b8 ka8 (1 : Int32) [(.int (p2.toInt8.toInt32))] T175.heap n0 Z175 f183 f184 f185 p175_6 p175_7 g_kl_16 g_wl_16 p16_2 ne_b12_kl_16 ne_b12_wl_16 f186 f187 (by first | decide | assumption | rfl | (intro _; rfl)) p175_10 p175_11 pv175_12 p175_13 p175_14 pv175_15 pv175_18 pv175_19 p175_16 p175_17 g_ar1_175 g_ar2_175 p175_5 ne_b12_ar1_175 ne_b12_ar2_175 ne_kl_16_ar1_175 ne_kl_16_ar2_175 ne_wl_16_ar1_175 ne_wl_16_ar2_175 (by first | decide | assumption | rfl | (intro _; rfl)) (by first | decide | assumption | rfl | (intro _; rfl)) (by first | decide | assumption | rfl | (intro _; rfl)) (by first | decide | assumption | rfl | (intro _; rfl)) ne_b8_kl_16 ne_b8_ar1_175 f188 f189 (by first | decide | assumption | rfl | (intro _; rfl))) (by rw [hml]; rfl) rfl [(.ref b12), (.ref b4), (.ref b8), (.int (0 : Int32))] rfl rfl (W := 0) (Nat.le_of_eq rfl) (by decide) (by decide) (by decide) (by decide) (lenOf pd_10 rfl) (hb hby at_105) rfl fun v182 T182 L182 X182 hQ182 => ?_
      obtain ⟨cc1_182, cc2_182, rfl, Nq182, kc182, p182_0, p182_1, p182_2, p182_3, p182_4, p182_5, p182_6, p182_7, p182_8, p182_9, p182_10, p182_11, p182_12, p182_13, p182_14, p182_15⟩ := hQ182
      have N182 := Fr.app N175 Nq182
      have f190 : Arv Z T175.heap b1 ka1 .byte (2 : Int32) [(.int (p0.toInt8.toInt32)), (.int (((p0.toUInt32 >>> ((8 : Int32) &&& 31).toUInt32).toInt32).toInt8.toInt32))] (.int (0 : Int32)) := (f177.keep kc175 (ninS ne_b1_kl_16 (ninS ne_b1_wl_16 nin0)))
      have f191 : Arv Z T175.heap b6 ka6 .byte (0 : Int32) [] (.int (0 : Int32)) := (f180.keep kc175 (ninS ne_b6_kl_16 (ninS ne_b6_wl_16 nin0)))
      have ne_ar1_175_cc1_182 : ar1_175 ≠ cc1_182 := own_neK pv175_18.lt p182_0
      have ne_ar2_175_cc1_182 : ar2_175 ≠ cc1_182 := own_neK pv175_19.lt p182_0
      have ne_b1_cc1_182 : b1 ≠ cc1_182 := own_neK f190.lt p182_0
      have ne_b12_cc1_182 : b12 ≠ cc1_182 := own_neK f185.lt p182_0
      have ne_b4_cc1_182 : b4 ≠ cc1_182 := own_neK f187.lt p182_0
      have ne_b6_cc1_182 : b6 ≠ cc1_182 := own_neK f191.lt p182_0
      have ne_b8_cc1_182 : b8 ≠ cc1_182 := own_neK f189.lt p182_0
      have ne_cc1_175_cc1_182 : cc1_175 ≠ cc1_182 := own_neK p175_8.lt p182_0
      have ne_kl_16_cc1_182 : kl_16 ≠ cc1_182 := own_neK p175_6.lt p182_0
      have ne_wl_16_cc1_182 : wl_16 ≠ cc1_182 := own_neK p175_7.lt p182_0
      have g_cc1_182 : n0 ≤ cc1_182 := Nat.le_trans Z175 p182_0
      have ne_ar1_175_cc2_182 : ar1_175 ≠ cc2_182 := own_neK pv175_18.lt p182_1
      have ne_ar2_175_cc2_182 : ar2_175 ≠ cc2_182 := own_neK pv175_19.lt p182_1
      have ne_b1_cc2_182 : b1 ≠ cc2_182 := own_neK f190.lt p182_1
      have ne_b12_cc2_182 : b12 ≠ cc2_182 := own_neK f185.lt p182_1
      have ne_b4_cc2_182 : b4 ≠ cc2_182 := own_neK f187.lt p182_1
      have ne_b6_cc2_182 : b6 ≠ cc2_182 := own_neK f191.lt p182_1
      have ne_b8_cc2_182 : b8 ≠ cc2_182 := own_neK f189.lt p182_1
      have ne_cc1_175_cc2_182 : cc1_175 ≠ cc2_182 := own_neK p175_8.lt p182_1
      have ne_kl_16_cc2_182 : kl_16 ≠ cc2_182 := own_neK p175_6.lt p182_1
      have ne_wl_16_cc2_182 : wl_16 ≠ cc2_182 := own_neK p175_7.lt p182_1
      have g_cc2_182 : n0 ≤ cc2_182 := Nat.le_trans Z175 p182_1
      have Z182 : n0 ≤ T182.heap.size := Nat.le_trans Z175 kc182.1
      have pv182_6 : Arv Z T182.heap cc1_182 ka4 .byte (1 : Int32) [(.int (p1.toInt8.toInt32))] (.int (0 : Int32)) := p182_6
      have pv182_9 : Fld Z T182.heap kl_16 "java/util/ArrayList" "size" "I" (.int (2 : Int32)) := p182_9
      have pv182_10 : Fld Z T182.heap kl_16 "java/util/AbstractList" "modCount" "I" (.int (2 : Int32)) := p182_10
      have pv182_12 : Fld Z T182.heap wl_16 "java/util/ArrayList" "size" "I" (.int (2 : Int32)) := p182_12
      have pv182_13 : Fld Z T182.heap wl_16 "java/util/AbstractList" "modCount" "I" (.int (2 : Int32)) := p182_13
      have pv182_14 : Arv Z T182.heap ar1_175 kr1_175 (.object "java/lang/Object") (10 : Int32) [(.ref cc1_175), (.ref cc1_182), .null, .null, .null, .null, .null, .null, .null, .null] .null := p182_14
      have pv182_15 : Arv Z T182.heap ar2_175 kr2_175 (.object "java/lang/Object") (10 : Int32) [.null, (.ref cc2_182), .null, .null, .null, .null, .null, .null, .null, .null] .null := p182_15
      show Ga _ _ _ _ _ _ _ _ _ _ _ []
      refine g_aload X182 hx (hb hby at_108) rfl rfl rfl ?_
      refine g_aload X182 hx (hb hby at_110) rfl rfl rfl ?_
      refine g_aload X182 hx (hb hby at_112) rfl rfl rfl ?_
      refine g_iloadN X182 hx (hb hby at_114) rfl rfl ?_
      refine g_iconst X182 hx (r := (4 : Int32)) (hb hby at_115) rfl rfl ?_
      refine g_iand X182 hx (hb hby at_116) rfl rfl ?_
      by_cases hc117 : (p3 &&& (4 : Int32)) = (0 : Int32)
      · skip
        refine g_ifY X182 hx (q := 124) (hb hby at_117) (XT.i0_eq_t hc117) (by decide) (by decide) ?_
        refine g_iconst X182 hx (r := (0 : Int32)) (hb hby at_124) rfl rfl ?_
        have f193 : Fld Z T182.heap b12 "com/example/covering/covering/store/Batch" "keys" "Ljava/util/List;" (.ref kl_16) := (f183.keep kc182 (ninS ne_b12_kl_16 (ninS ne_b12_wl_16 (ninS ne_b12_ar1_175 (ninS ne_b12_ar2_175 nin0)))))
        have f194 : Fld Z T182.heap b12 "com/example/covering/covering/store/Batch" "values" "Ljava/util/List;" (.ref wl_16) := (f184.keep kc182 (ninS ne_b12_kl_16 (ninS ne_b12_wl_16 (ninS ne_b12_ar1_175 (ninS ne_b12_ar2_175 nin0)))))
        have f195 : Exa Z T182.heap b12 "com/example/covering/covering/store/Batch" := (f185.keep kc182)
        have f196 : Exa Z T182.heap b6 "[B" := ((((((A6.ext E8).wr W11).ext E12).keep kc16).keep kc175).keep kc182)
        have f197 : Arv Z T182.heap b6 ka6 .byte (0 : Int32) [] (.int (0 : Int32)) := (f191.keep kc182 (ninS ne_b6_kl_16 (ninS ne_b6_wl_16 (ninS ne_b6_ar1_175 (ninS ne_b6_ar2_175 nin0)))))
        have f198 : Exa Z T182.heap b8 "[B" := (f188.keep kc182)
        have f199 : Arv Z T182.heap b8 ka8 .byte (1 : Int32) [(.int (p2.toInt8.toInt32))] (.int (0 : Int32)) := (f189.keep kc182 (ninS ne_b8_kl_16 (ninS ne_b8_wl_16 (ninS ne_b8_ar1_175 (ninS ne_b8_ar2_175 nin0)))))
        refine g_static X182 hx hZ hown (hw _ (List.mem_of_getElem? (i := 38) rfl)) (hw _ (List.mem_of_getElem? (i := 39) rfl)) (hw _ (List.mem_of_getElem? (i := 40) rfl)) (hw _ (List.mem_of_getElem? (i := 41) rfl)) (by decide) (rm_ladd1N l Z a0 hw b12 b6 ka6 (0 : Int32) [] kl_16 wl_16 (2 : Int32) (2 : Int32) ar1_175 kr1_175 ar2_175 kr2_175 (2 : Int32) [(.ref cc1_175), (.ref cc1_182), .null, .null, .null, .null, .null, .null, .null, .null] [.null, (.ref cc2_182), .null, .null, .null, .null, .null, .null, .null, .null] b8 ka8 (1 : Int32) [(.int (p2.toInt8.toInt32))] T182.heap n0 Z182 f193 f194 f195 p182_3 p182_4 g_kl_16 g_wl_16 p16_2 ne_b12_kl_16 ne_b12_wl_16 f196 f197 (by first | decide | assumption | rfl | (intro _; rfl)) p182_8 pv182_9 pv182_10 p182_11 pv182_12 pv182_13 pv182_14 pv182_15 p175_16 p175_17 g_ar1_175 g_ar2_175 p175_5 ne_b12_ar1_175 ne_b12_ar2_175 ne_kl_16_ar1_175 ne_kl_16_ar2_175 ne_wl_16_ar1_175 ne_wl_16_ar2_175 (by first | decide | assumption | rfl | (intro _; rfl)) (by first | decide | assumption | rfl | (intro _; rfl)) (by first | decide | assumption | rfl | (intro _; rfl)) (by first | decide | assumption | rfl | (intro _; rfl)) ne_b8_kl_16 ne_b8_ar1_175 f198 f199 (by first | decide | assumption | rfl | (intro _; rfl))) (by rw [hml]; rfl) rfl [(.ref b12), (.ref b6), (.ref b8), (.int (0 : Int32))] rfl rfl (W := 0) (Nat.le_of_eq rfl) (by decide) (by decide) (by decide) (by decide) (lenOf pd_10 rfl) (hb hby at_125) rfl fun v192 T192 L192 X192 hQ192 => ?_
        obtain ⟨cc1_192, cc2_192, rfl, Nq192, kc192, p192_0, p192_1, p192_2, p192_3, p192_4, p192_5, p192_6, p192_7, p192_8, p192_9, p192_10, p192_11, p192_12, p192_13, p192_14, p192_15⟩ := hQ192
        have N192 := Fr.app N182 Nq192
        have f200 : Arv Z T182.heap b1 ka1 .byte (2 : Int32) [(.int (p0.toInt8.toInt32)), (.int (((p0.toUInt32 >>> ((8 : Int32) &&& 31).toUInt32).toInt32).toInt8.toInt32))] (.int (0 : Int32)) := (f190.keep kc182 (ninS ne_b1_kl_16 (ninS ne_b1_wl_16 (ninS ne_b1_ar1_175 (ninS ne_b1_ar2_175 nin0)))))
        have f201 : Arv Z T182.heap b4 ka4 .byte (1 : Int32) [(.int (p1.toInt8.toInt32))] (.int (0 : Int32)) := (f187.keep kc182 (ninS ne_b4_kl_16 (ninS ne_b4_wl_16 (ninS ne_b4_ar1_175 (ninS ne_b4_ar2_175 nin0)))))
        have f202 : Exa Z T182.heap cc1_175 "[B" := (p175_8.keep kc182)
        have ne_ar1_175_cc1_192 : ar1_175 ≠ cc1_192 := own_neK pv182_14.lt p192_0
        have ne_ar2_175_cc1_192 : ar2_175 ≠ cc1_192 := own_neK pv182_15.lt p192_0
        have ne_b1_cc1_192 : b1 ≠ cc1_192 := own_neK f200.lt p192_0
        have ne_b12_cc1_192 : b12 ≠ cc1_192 := own_neK f195.lt p192_0
        have ne_b4_cc1_192 : b4 ≠ cc1_192 := own_neK f201.lt p192_0
        have ne_b6_cc1_192 : b6 ≠ cc1_192 := own_neK f197.lt p192_0
        have ne_b8_cc1_192 : b8 ≠ cc1_192 := own_neK f199.lt p192_0
        have ne_cc1_175_cc1_192 : cc1_175 ≠ cc1_192 := own_neK f202.lt p192_0
        have ne_cc1_182_cc1_192 : cc1_182 ≠ cc1_192 := own_neK p182_5.lt p192_0
        have ne_cc2_182_cc1_192 : cc2_182 ≠ cc1_192 := own_neK p182_7.lt p192_0
        have ne_kl_16_cc1_192 : kl_16 ≠ cc1_192 := own_neK p182_3.lt p192_0
        have ne_wl_16_cc1_192 : wl_16 ≠ cc1_192 := own_neK p182_4.lt p192_0
        have g_cc1_192 : n0 ≤ cc1_192 := Nat.le_trans Z182 p192_0
        have ne_ar1_175_cc2_192 : ar1_175 ≠ cc2_192 := own_neK pv182_14.lt p192_1
        have ne_ar2_175_cc2_192 : ar2_175 ≠ cc2_192 := own_neK pv182_15.lt p192_1
        have ne_b1_cc2_192 : b1 ≠ cc2_192 := own_neK f200.lt p192_1
        have ne_b12_cc2_192 : b12 ≠ cc2_192 := own_neK f195.lt p192_1
        have ne_b4_cc2_192 : b4 ≠ cc2_192 := own_neK f201.lt p192_1
        have ne_b6_cc2_192 : b6 ≠ cc2_192 := own_neK f197.lt p192_1
        have ne_b8_cc2_192 : b8 ≠ cc2_192 := own_neK f199.lt p192_1
        have ne_cc1_175_cc2_192 : cc1_175 ≠ cc2_192 := own_neK f202.lt p192_1
        have ne_cc1_182_cc2_192 : cc1_182 ≠ cc2_192 := own_neK p182_5.lt p192_1
        have ne_cc2_182_cc2_192 : cc2_182 ≠ cc2_192 := own_neK p182_7.lt p192_1
        have ne_kl_16_cc2_192 : kl_16 ≠ cc2_192 := own_neK p182_3.lt p192_1
        have ne_wl_16_cc2_192 : wl_16 ≠ cc2_192 := own_neK p182_4.lt p192_1
        have g_cc2_192 : n0 ≤ cc2_192 := Nat.le_trans Z182 p192_1
        have Z192 : n0 ≤ T192.heap.size := Nat.le_trans Z182 kc192.1
        have pv192_6 : Arv Z T192.heap cc1_192 ka6 .byte (0 : Int32) [] (.int (0 : Int32)) := p192_6
        have pv192_9 : Fld Z T192.heap kl_16 "java/util/ArrayList" "size" "I" (.int (3 : Int32)) := p192_9
        have pv192_10 : Fld Z T192.heap kl_16 "java/util/AbstractList" "modCount" "I" (.int (3 : Int32)) := p192_10
        have pv192_12 : Fld Z T192.heap wl_16 "java/util/ArrayList" "size" "I" (.int (3 : Int32)) := p192_12
        have pv192_13 : Fld Z T192.heap wl_16 "java/util/AbstractList" "modCount" "I" (.int (3 : Int32)) := p192_13
        have pv192_14 : Arv Z T192.heap ar1_175 kr1_175 (.object "java/lang/Object") (10 : Int32) [(.ref cc1_175), (.ref cc1_182), (.ref cc1_192), .null, .null, .null, .null, .null, .null, .null] .null := p192_14
        have pv192_15 : Arv Z T192.heap ar2_175 kr2_175 (.object "java/lang/Object") (10 : Int32) [.null, (.ref cc2_182), (.ref cc2_192), .null, .null, .null, .null, .null, .null, .null] .null := p192_15
        show Ga _ _ _ _ _ _ _ _ _ _ _ []
        refine g_aload X192 hx (hb hby at_128) rfl rfl rfl ?_
        refine g_iconst X192 hx (r := (0 : Int32)) (hb hby at_130) rfl rfl ?_
        refine g_aload X192 hx (hb hby at_131) rfl rfl rfl ?_
        refine g_iconst X192 hx (r := (0 : Int32)) (hb hby at_133) rfl rfl ?_
        have f203 : Arv Z T192.heap b1 ka1 .byte (2 : Int32) [(.int (p0.toInt8.toInt32)), (.int (((p0.toUInt32 >>> ((8 : Int32) &&& 31).toUInt32).toInt32).toInt8.toInt32))] (.int (0 : Int32)) := (f200.keep kc192 (ninS ne_b1_kl_16 (ninS ne_b1_wl_16 (ninS ne_b1_ar1_175 (ninS ne_b1_ar2_175 nin0)))))
        refine g_baload X192 hx hZ rfl f203 (v := (.int (p0.toInt8.toInt32))) ⟨by decide, by decide⟩ rfl (hb hby at_134) rfl ?_
        refine g_iconst X192 hx (r := (-1 : Int32)) (hb hby at_135) rfl rfl ?_
        refine g_ixor X192 hx (hb hby at_136) rfl rfl ?_
        refine g_i2b X192 hx (hb hby at_137) rfl rfl ?_
        refine g_bastore X192 hx hZ rfl f203 ⟨by decide, by decide⟩ (Nat.le_of_ble_eq_true rfl) (hb hby at_138) rfl fun T204 h204 X204 e204 W204 V204 => ?_
        rw [own_nar, own_bb] at V204
        have Vn204 : Arv Z h204 b1 ka1 .byte (2 : Int32) [(.int (((p0.toInt8.toInt32) ^^^ (-1 : Int32)).toInt8.toInt32)), (.int (((p0.toUInt32 >>> ((8 : Int32) &&& 31).toUInt32).toInt32).toInt8.toInt32))] (.int (0 : Int32)) := V204
        have N204 := Fr.snoc X204 N192 g_b1
        have Z204 : n0 ≤ h204.size := by rw [W204.size]; exact Z192
        refine g_aload X204 hx (hb hby at_139) rfl rfl rfl ?_
        refine g_iconst X204 hx (r := (1 : Int32)) (hb hby at_141) rfl rfl ?_
        refine g_aload X204 hx (hb hby at_142) rfl rfl rfl ?_
        refine g_iconst X204 hx (r := (1 : Int32)) (hb hby at_144) rfl rfl ?_
        refine g_baload X204 hx hZ e204 Vn204 (v := (.int (((p0.toUInt32 >>> ((8 : Int32) &&& 31).toUInt32).toInt32).toInt8.toInt32))) ⟨by decide, by decide⟩ rfl (hb hby at_145) rfl ?_
        refine g_iconst X204 hx (r := (-1 : Int32)) (hb hby at_146) rfl rfl ?_
        refine g_ixor X204 hx (hb hby at_147) rfl rfl ?_
        refine g_i2b X204 hx (hb hby at_148) rfl rfl ?_
        refine g_bastore X204 hx hZ e204 Vn204 ⟨by decide, by decide⟩ (Nat.le_of_ble_eq_true rfl) (hb hby at_149) rfl fun T205 h205 X205 e205 W205 V205 => ?_
        rw [own_nar, own_bb] at V205
        have Vn205 : Arv Z h205 b1 ka1 .byte (2 : Int32) [(.int (((p0.toInt8.toInt32) ^^^ (-1 : Int32)).toInt8.toInt32)), (.int (((((p0.toUInt32 >>> ((8 : Int32) &&& 31).toUInt32).toInt32).toInt8.toInt32) ^^^ (-1 : Int32)).toInt8.toInt32))] (.int (0 : Int32)) := V205
        have N205 := Fr.snoc X205 N204 g_b1
        have Z205 : n0 ≤ h205.size := by rw [W205.size]; exact Z204
        refine g_aload X205 hx (hb hby at_150) rfl rfl rfl ?_
        refine g_iconst X205 hx (r := (0 : Int32)) (hb hby at_152) rfl rfl ?_
        refine g_aload X205 hx (hb hby at_153) rfl rfl rfl ?_
        refine g_iconst X205 hx (r := (0 : Int32)) (hb hby at_155) rfl rfl ?_
        have f206 : Arv Z h205 b4 ka4 .byte (1 : Int32) [(.int (p1.toInt8.toInt32))] (.int (0 : Int32)) := (((f201.keep kc192 (ninS ne_b4_kl_16 (ninS ne_b4_wl_16 (ninS ne_b4_ar1_175 (ninS ne_b4_ar2_175 nin0))))).other W204 (Ne.symm ne_b1_b4)).other W205 (Ne.symm ne_b1_b4))
        refine g_baload X205 hx hZ e205 f206 (v := (.int (p1.toInt8.toInt32))) ⟨by decide, by decide⟩ rfl (hb hby at_156) rfl ?_
        refine g_iconst X205 hx (r := (-1 : Int32)) (hb hby at_157) rfl rfl ?_
        refine g_ixor X205 hx (hb hby at_158) rfl rfl ?_
        refine g_i2b X205 hx (hb hby at_159) rfl rfl ?_
        refine g_bastore X205 hx hZ e205 f206 ⟨by decide, by decide⟩ (Nat.le_of_ble_eq_true rfl) (hb hby at_160) rfl fun T207 h207 X207 e207 W207 V207 => ?_
        rw [own_nar, own_bb] at V207
        have Vn207 : Arv Z h207 b4 ka4 .byte (1 : Int32) [(.int (((p1.toInt8.toInt32) ^^^ (-1 : Int32)).toInt8.toInt32))] (.int (0 : Int32)) := V207
        have N207 := Fr.snoc X207 N205 g_b4
        have Z207 : n0 ≤ h207.size := by rw [W207.size]; exact Z205
        refine g_aload X207 hx (hb hby at_161) rfl rfl rfl ?_
        refine g_iconst X207 hx (r := (0 : Int32)) (hb hby at_163) rfl rfl ?_
        have f209 : Fld Z h207 b12 "com/example/covering/covering/store/Batch" "keys" "Ljava/util/List;" (.ref kl_16) := ((((f193.keep kc192 (ninS ne_b12_kl_16 (ninS ne_b12_wl_16 (ninS ne_b12_ar1_175 (ninS ne_b12_ar2_175 nin0))))).other W204 (Or.inl (Ne.symm ne_b1_b12))).other W205 (Or.inl (Ne.symm ne_b1_b12))).other W207 (Or.inl (Ne.symm ne_b4_b12)))
        have f210 : Fld Z h207 kl_16 "java/util/ArrayList" "size" "I" (.int (3 : Int32)) := (((pv192_9.other W204 (Or.inl (Ne.symm ne_b1_kl_16))).other W205 (Or.inl (Ne.symm ne_b1_kl_16))).other W207 (Or.inl (Ne.symm ne_b4_kl_16)))
        have f211 : Fld Z h207 kl_16 "java/util/ArrayList" "elementData" "[Ljava/lang/Object;" (.ref ar1_175) := (((p192_8.other W204 (Or.inl (Ne.symm ne_b1_kl_16))).other W205 (Or.inl (Ne.symm ne_b1_kl_16))).other W207 (Or.inl (Ne.symm ne_b4_kl_16)))
        have f212 : Arv Z h207 ar1_175 kr1_175 (.object "java/lang/Object") (10 : Int32) [(.ref cc1_175), (.ref cc1_182), (.ref cc1_192), .null, .null, .null, .null, .null, .null, .null] .null := (((pv192_14.other W204 (Ne.symm ne_b1_ar1_175)).other W205 (Ne.symm ne_b1_ar1_175)).other W207 (Ne.symm ne_b4_ar1_175))
        have f213 : Exa Z h207 kl_16 "java/util/ArrayList" := (((p192_3.wr W204).wr W205).wr W207)
        have f214 : Exa Z h207 cc1_175 "[B" := ((((f202.keep kc192).wr W204).wr W205).wr W207)
        have f215 : Exa Z h207 b12 "com/example/covering/covering/store/Batch" := ((((f195.keep kc192).wr W204).wr W205).wr W207)
        refine g_virtual X207 hx hZ hown (hw _ (List.mem_of_getElem? (i := 96) rfl)) (hw _ (List.mem_of_getElem? (i := 97) rfl)) (notFace_of_selects (args := #[]) (mvT hZ (hw _ (List.mem_of_getElem? (i := 99) rfl)))) (hw _ (List.mem_of_getElem? (i := 99) rfl)) (hw _ (List.mem_of_getElem? (i := 98) rfl)) (hw _ (List.mem_of_getElem? (i := 3) rfl)) (hw _ (List.mem_of_getElem? (i := 100) rfl)) (by decide) (a := b12) f215 (rm_key l Z a0 hw b12 kl_16 ar1_175 kr1_175 (3 : Int32) [(.ref cc1_175), (.ref cc1_182), (.ref cc1_192), .null, .null, .null, .null, .null, .null, .null] (0 : Int32) cc1_175 h207 n0 Z207 f209 f210 f211 f212 f213 (by first | decide | assumption | rfl | (intro _; rfl)) (by first | decide | assumption | rfl | (intro _; rfl)) (by first | decide | assumption | rfl | (intro _; rfl)) (by first | decide | assumption | rfl | (intro _; rfl)) (Ins.self f214)) (by rw [hml]; rfl) e207 [(.int (0 : Int32))] rfl rfl (W := 0) (Nat.le_of_eq rfl) (by decide) (by decide) (by decide) (by decide) (lenOf pd_11 rfl) (hb hby at_164) rfl fun v208 T208 L208 X208 hQ208 => ?_
        obtain ⟨rfl, Nq208, eh208⟩ := hQ208
        have N208 := Fr.app N207 Nq208
        show Ga _ _ _ _ _ _ _ _ _ _ _ [(.ref cc1_175)]
        refine g_astore X208 hx (Ls' := #[.val (.int p0), .val (.int p1), .val (.int p2), .val (.int p3), .val (.int (p0.toInt8.toInt32)), .val (.int (((p0.toUInt32 >>> ((8 : Int32) &&& 31).toUInt32).toInt32).toInt8.toInt32)), .val (.int (p1.toInt8.toInt32)), .val (.ref b1), .val (.ref b4), .val (.ref b6), .val (.ref b8), .val (.ref b12), .val (.ref cc1_175), .unset, .unset]) (hb hby at_167) rfl rfl rfl ?_
        refine g_aload X208 hx (hb hby at_169) rfl rfl rfl ?_
        refine g_iconst X208 hx (r := (1 : Int32)) (hb hby at_171) rfl rfl ?_
        have f217 : Exa Z h207 cc1_182 "[B" := ((((p182_5.keep kc192).wr W204).wr W205).wr W207)
        refine g_virtual X208 hx hZ hown (hw _ (List.mem_of_getElem? (i := 96) rfl)) (hw _ (List.mem_of_getElem? (i := 97) rfl)) (notFace_of_selects (args := #[]) (mvT hZ (hw _ (List.mem_of_getElem? (i := 99) rfl)))) (hw _ (List.mem_of_getElem? (i := 99) rfl)) (hw _ (List.mem_of_getElem? (i := 98) rfl)) (hw _ (List.mem_of_getElem? (i := 3) rfl)) (hw _ (List.mem_of_getElem? (i := 100) rfl)) (by decide) (a := b12) f215 (rm_key l Z a0 hw b12 kl_16 ar1_175 kr1_175 (3 : Int32) [(.ref cc1_175), (.ref cc1_182), (.ref cc1_192), .null, .null, .null, .null, .null, .null, .null] (1 : Int32) cc1_182 h207 n0 Z207 f209 f210 f211 f212 f213 (by first | decide | assumption | rfl | (intro _; rfl)) (by first | decide | assumption | rfl | (intro _; rfl)) (by first | decide | assumption | rfl | (intro _; rfl)) (by first | decide | assumption | rfl | (intro _; rfl)) (Ins.self f217)) (by rw [hml]; rfl) eh208 [(.int (1 : Int32))] rfl rfl (W := 0) (Nat.le_of_eq rfl) (by decide) (by decide) (by decide) (by decide) (lenOf pd_11 rfl) (hb hby at_172) rfl fun v216 T216 L216 X216 hQ216 => ?_
        obtain ⟨rfl, Nq216, eh216⟩ := hQ216
        have N216 := Fr.app N208 Nq216
        show Ga _ _ _ _ _ _ _ _ _ _ _ [(.ref cc1_182)]
        refine g_astore X216 hx (Ls' := #[.val (.int p0), .val (.int p1), .val (.int p2), .val (.int p3), .val (.int (p0.toInt8.toInt32)), .val (.int (((p0.toUInt32 >>> ((8 : Int32) &&& 31).toUInt32).toInt32).toInt8.toInt32)), .val (.int (p1.toInt8.toInt32)), .val (.ref b1), .val (.ref b4), .val (.ref b6), .val (.ref b8), .val (.ref b12), .val (.ref cc1_175), .val (.ref cc1_182), .unset]) (hb hby at_175) rfl rfl rfl ?_
        refine g_aload X216 hx (hb hby at_177) rfl rfl rfl ?_
        refine g_iconst X216 hx (r := (2 : Int32)) (hb hby at_179) rfl rfl ?_
        have f219 : Exa Z h207 cc1_192 "[B" := (((p192_5.wr W204).wr W205).wr W207)
        refine g_virtual X216 hx hZ hown (hw _ (List.mem_of_getElem? (i := 96) rfl)) (hw _ (List.mem_of_getElem? (i := 97) rfl)) (notFace_of_selects (args := #[]) (mvT hZ (hw _ (List.mem_of_getElem? (i := 99) rfl)))) (hw _ (List.mem_of_getElem? (i := 99) rfl)) (hw _ (List.mem_of_getElem? (i := 98) rfl)) (hw _ (List.mem_of_getElem? (i := 3) rfl)) (hw _ (List.mem_of_getElem? (i := 100) rfl)) (by decide) (a := b12) f215 (rm_key l Z a0 hw b12 kl_16 ar1_175 kr1_175 (3 : Int32) [(.ref cc1_175), (.ref cc1_182), (.ref cc1_192), .null, .null, .null, .null, .null, .null, .null] (2 : Int32) cc1_192 h207 n0 Z207 f209 f210 f211 f212 f213 (by first | decide | assumption | rfl | (intro _; rfl)) (by first | decide | assumption | rfl | (intro _; rfl)) (by first | decide | assumption | rfl | (intro _; rfl)) (by first | decide | assumption | rfl | (intro _; rfl)) (Ins.self f219)) (by rw [hml]; rfl) eh216 [(.int (2 : Int32))] rfl rfl (W := 0) (Nat.le_of_eq rfl) (by decide) (by decide) (by decide) (by decide) (lenOf pd_11 rfl) (hb hby at_180) rfl fun v218 T218 L218 X218 hQ218 => ?_
        obtain ⟨rfl, Nq218, eh218⟩ := hQ218
        have N218 := Fr.app N216 Nq218
        show Ga _ _ _ _ _ _ _ _ _ _ _ [(.ref cc1_192)]
        refine g_astore X218 hx (Ls' := #[.val (.int p0), .val (.int p1), .val (.int p2), .val (.int p3), .val (.int (p0.toInt8.toInt32)), .val (.int (((p0.toUInt32 >>> ((8 : Int32) &&& 31).toUInt32).toInt32).toInt8.toInt32)), .val (.int (p1.toInt8.toInt32)), .val (.ref b1), .val (.ref b4), .val (.ref b6), .val (.ref b8), .val (.ref b12), .val (.ref cc1_175), .val (.ref cc1_182), .val (.ref cc1_192)]) (hb hby at_183) rfl rfl rfl ?_
        refine g_aload X218 hx (hb hby at_185) rfl rfl rfl ?_
        refine g_ifnullN X218 hx (hb hby at_187) rfl  ?_
        refine g_aload X218 hx (hb hby at_190) rfl rfl rfl ?_
        refine g_ifnullN X218 hx (hb hby at_192) rfl  ?_
        refine g_aload X218 hx (hb hby at_195) rfl rfl rfl ?_
        refine g_ifnonnullY X218 hx (q := 202) (hb hby at_197) (by decide) (by decide) ?_
        refine g_aload X218 hx (hb hby at_202) rfl rfl rfl ?_
        have f220 : Arv Z h207 cc1_175 ka1 .byte (2 : Int32) [(.int (p0.toInt8.toInt32)), (.int (((p0.toUInt32 >>> ((8 : Int32) &&& 31).toUInt32).toInt32).toInt8.toInt32))] (.int (0 : Int32)) := (((((pv175_9.keep kc182 (ninS (Ne.symm ne_kl_16_cc1_175) (ninS (Ne.symm ne_wl_16_cc1_175) (ninS p175_3 (ninS p175_4 nin0))))).keep kc192 (ninS (Ne.symm ne_kl_16_cc1_175) (ninS (Ne.symm ne_wl_16_cc1_175) (ninS p175_3 (ninS p175_4 nin0))))).other W204 (Ne.symm ne_b1_cc1_175)).other W205 (Ne.symm ne_b1_cc1_175)).other W207 (Ne.symm ne_b4_cc1_175))
        refine g_len X218 hx hZ eh218 f220 (hb hby at_204) rfl ?_
        refine g_iconst X218 hx (r := (2 : Int32)) (hb hby at_205) rfl rfl ?_
        refine g_icmpN X218 hx (hb hby at_206) rfl (XT.ii_ne_f (by decide : (2 : Int32) = (2 : Int32))) ?_
        refine g_aload X218 hx (hb hby at_209) rfl rfl rfl ?_
        refine g_iconst X218 hx (r := (0 : Int32)) (hb hby at_211) rfl rfl ?_
        refine g_baload X218 hx hZ eh218 f220 (v := (.int (p0.toInt8.toInt32))) ⟨by decide, by decide⟩ rfl (hb hby at_212) rfl ?_
        refine g_iload X218 hx (hb hby at_213) rfl rfl ?_
        refine g_icmpN X218 hx (hb hby at_215) rfl (XT.ii_ne_f rfl) ?_
        refine g_aload X218 hx (hb hby at_218) rfl rfl rfl ?_
        refine g_iconst X218 hx (r := (1 : Int32)) (hb hby at_220) rfl rfl ?_
        refine g_baload X218 hx hZ eh218 f220 (v := (.int (((p0.toUInt32 >>> ((8 : Int32) &&& 31).toUInt32).toInt32).toInt8.toInt32))) ⟨by decide, by decide⟩ rfl (hb hby at_221) rfl ?_
        refine g_iload X218 hx (hb hby at_222) rfl rfl ?_
        refine g_icmpN X218 hx (hb hby at_224) rfl (XT.ii_ne_f rfl) ?_
        refine g_aload X218 hx (hb hby at_227) rfl rfl rfl ?_
        have f221 : Arv Z h207 cc1_182 ka4 .byte (1 : Int32) [(.int (p1.toInt8.toInt32))] (.int (0 : Int32)) := ((((pv182_6.keep kc192 (ninS (Ne.symm ne_kl_16_cc1_182) (ninS (Ne.symm ne_wl_16_cc1_182) (ninS (Ne.symm ne_ar1_175_cc1_182) (ninS (Ne.symm ne_ar2_175_cc1_182) nin0))))).other W204 (Ne.symm ne_b1_cc1_182)).other W205 (Ne.symm ne_b1_cc1_182)).other W207 (Ne.symm ne_b4_cc1_182))
        refine g_len X218 hx hZ eh218 f221 (hb hby at_229) rfl ?_
        refine g_iconst X218 hx (r := (1 : Int32)) (hb hby at_230) rfl rfl ?_
        refine g_icmpN X218 hx (hb hby at_231) rfl (XT.ii_ne_f (by decide : (1 : Int32) = (1 : Int32))) ?_
        refine g_aload X218 hx (hb hby at_234) rfl rfl rfl ?_
        refine g_iconst X218 hx (r := (0 : Int32)) (hb hby at_236) rfl rfl ?_
        refine g_baload X218 hx hZ eh218 f221 (v := (.int (p1.toInt8.toInt32))) ⟨by decide, by decide⟩ rfl (hb hby at_237) rfl ?_
        refine g_iload X218 hx (hb hby at_238) rfl rfl ?_
        refine g_icmpN X218 hx (hb hby at_240) rfl (XT.ii_ne_f rfl) ?_
        refine g_aload X218 hx (hb hby at_243) rfl rfl rfl ?_
        have f222 : Arv Z h207 cc1_192 ka6 .byte (0 : Int32) [] (.int (0 : Int32)) := (((pv192_6.other W204 (Ne.symm ne_b1_cc1_192)).other W205 (Ne.symm ne_b1_cc1_192)).other W207 (Ne.symm ne_b4_cc1_192))
        refine g_len X218 hx hZ eh218 f222 (hb hby at_245) rfl ?_
        refine g_ifN X218 hx (hb hby at_246) rfl (XT.i0_ne_f (by decide : (0 : Int32) = (0 : Int32))) ?_
        refine g_iconst X218 hx (r := (1 : Int32)) (hb hby at_249) rfl rfl ?_
        refine g_goto X218 hx (q := 254) (hb hby at_250) (by decide) (by decide) ?_
        exact g_retN X218 hx (t := .boolean) (r := (1 : Int32)) hret (by simp) hlk (hb hby at_254) rfl (by decide) (by decide) (by rw [eh218]; exact ⟨rfl, N218⟩)
      · skip
        refine g_ifN X182 hx (hb hby at_117) rfl (XT.i0_eq_f hc117) ?_
        refine g_iconst X182 hx (r := (1 : Int32)) (hb hby at_120) rfl rfl ?_
        refine g_goto X182 hx (q := 125) (hb hby at_121) (by decide) (by decide) ?_
        have f224 : Fld Z T182.heap b12 "com/example/covering/covering/store/Batch" "keys" "Ljava/util/List;" (.ref kl_16) := (f183.keep kc182 (ninS ne_b12_kl_16 (ninS ne_b12_wl_16 (ninS ne_b12_ar1_175 (ninS ne_b12_ar2_175 nin0)))))
        have f225 : Fld Z T182.heap b12 "com/example/covering/covering/store/Batch" "values" "Ljava/util/List;" (.ref wl_16) := (f184.keep kc182 (ninS ne_b12_kl_16 (ninS ne_b12_wl_16 (ninS ne_b12_ar1_175 (ninS ne_b12_ar2_175 nin0)))))
        have f226 : Exa Z T182.heap b12 "com/example/covering/covering/store/Batch" := (f185.keep kc182)
        have f227 : Exa Z T182.heap b6 "[B" := ((((((A6.ext E8).wr W11).ext E12).keep kc16).keep kc175).keep kc182)
        have f228 : Arv Z T182.heap b6 ka6 .byte (0 : Int32) [] (.int (0 : Int32)) := (f191.keep kc182 (ninS ne_b6_kl_16 (ninS ne_b6_wl_16 (ninS ne_b6_ar1_175 (ninS ne_b6_ar2_175 nin0)))))
        refine g_static X182 hx hZ hown (hw _ (List.mem_of_getElem? (i := 38) rfl)) (hw _ (List.mem_of_getElem? (i := 39) rfl)) (hw _ (List.mem_of_getElem? (i := 40) rfl)) (hw _ (List.mem_of_getElem? (i := 41) rfl)) (by decide) (rm_ladd0N l Z a0 hw b12 b6 ka6 (0 : Int32) [] kl_16 wl_16 (2 : Int32) (2 : Int32) ar1_175 kr1_175 ar2_175 kr2_175 (2 : Int32) [(.ref cc1_175), (.ref cc1_182), .null, .null, .null, .null, .null, .null, .null, .null] [.null, (.ref cc2_182), .null, .null, .null, .null, .null, .null, .null, .null] b8 T182.heap n0 Z182 f224 f225 f226 p182_3 p182_4 g_kl_16 g_wl_16 p16_2 ne_b12_kl_16 ne_b12_wl_16 f227 f228 (by first | decide | assumption | rfl | (intro _; rfl)) p182_8 pv182_9 pv182_10 p182_11 pv182_12 pv182_13 pv182_14 pv182_15 p175_16 p175_17 g_ar1_175 g_ar2_175 p175_5 ne_b12_ar1_175 ne_b12_ar2_175 ne_kl_16_ar1_175 ne_kl_16_ar2_175 ne_wl_16_ar1_175 ne_wl_16_ar2_175 (by first | decide | assumption | rfl | (intro _; rfl)) (by first | decide | assumption | rfl | (intro _; rfl)) (by first | decide | assumption | rfl | (intro _; rfl)) (by first | decide | assumption | rfl | (intro _; rfl))) (by rw [hml]; rfl) rfl [(.ref b12), (.ref b6), (.ref b8), (.int (1 : Int32))] rfl rfl (W := 0) (Nat.le_of_eq rfl) (by decide) (by decide) (by decide) (by decide) (lenOf pd_10 rfl) (hb hby at_125) rfl fun v223 T223 L223 X223 hQ223 => ?_
        obtain ⟨cc1_223, rfl, Nq223, kc223, p223_0, p223_1, p223_2, p223_3, p223_4, p223_5, p223_6, p223_7, p223_8, p223_9, p223_10, p223_11, p223_12⟩ := hQ223
        have N223 := Fr.app N182 Nq223
        have f229 : Arv Z T182.heap b1 ka1 .byte (2 : Int32) [(.int (p0.toInt8.toInt32)), (.int (((p0.toUInt32 >>> ((8 : Int32) &&& 31).toUInt32).toInt32).toInt8.toInt32))] (.int (0 : Int32)) := (f190.keep kc182 (ninS ne_b1_kl_16 (ninS ne_b1_wl_16 (ninS ne_b1_ar1_175 (ninS ne_b1_ar2_175 nin0)))))
        have f230 : Arv Z T182.heap b4 ka4 .byte (1 : Int32) [(.int (p1.toInt8.toInt32))] (.int (0 : Int32)) := (f187.keep kc182 (ninS ne_b4_kl_16 (ninS ne_b4_wl_16 (ninS ne_b4_ar1_175 (ninS ne_b4_ar2_175 nin0)))))
        have f231 : Arv Z T182.heap b8 ka8 .byte (1 : Int32) [(.int (p2.toInt8.toInt32))] (.int (0 : Int32)) := (f189.keep kc182 (ninS ne_b8_kl_16 (ninS ne_b8_wl_16 (ninS ne_b8_ar1_175 (ninS ne_b8_ar2_175 nin0)))))
        have f232 : Exa Z T182.heap cc1_175 "[B" := (p175_8.keep kc182)
        have ne_ar1_175_cc1_223 : ar1_175 ≠ cc1_223 := own_neK pv182_14.lt p223_0
        have ne_ar2_175_cc1_223 : ar2_175 ≠ cc1_223 := own_neK pv182_15.lt p223_0
        have ne_b1_cc1_223 : b1 ≠ cc1_223 := own_neK f229.lt p223_0
        have ne_b12_cc1_223 : b12 ≠ cc1_223 := own_neK f226.lt p223_0
        have ne_b4_cc1_223 : b4 ≠ cc1_223 := own_neK f230.lt p223_0
        have ne_b6_cc1_223 : b6 ≠ cc1_223 := own_neK f228.lt p223_0
        have ne_b8_cc1_223 : b8 ≠ cc1_223 := own_neK f231.lt p223_0
        have ne_cc1_175_cc1_223 : cc1_175 ≠ cc1_223 := own_neK f232.lt p223_0
        have ne_cc1_182_cc1_223 : cc1_182 ≠ cc1_223 := own_neK p182_5.lt p223_0
        have ne_cc2_182_cc1_223 : cc2_182 ≠ cc1_223 := own_neK p182_7.lt p223_0
        have ne_kl_16_cc1_223 : kl_16 ≠ cc1_223 := own_neK p182_3.lt p223_0
        have ne_wl_16_cc1_223 : wl_16 ≠ cc1_223 := own_neK p182_4.lt p223_0
        have g_cc1_223 : n0 ≤ cc1_223 := Nat.le_trans Z182 p223_0
        have Z223 : n0 ≤ T223.heap.size := Nat.le_trans Z182 kc223.1
        have pv223_4 : Arv Z T223.heap cc1_223 ka6 .byte (0 : Int32) [] (.int (0 : Int32)) := p223_4
        have pv223_6 : Fld Z T223.heap kl_16 "java/util/ArrayList" "size" "I" (.int (3 : Int32)) := p223_6
        have pv223_7 : Fld Z T223.heap kl_16 "java/util/AbstractList" "modCount" "I" (.int (3 : Int32)) := p223_7
        have pv223_9 : Fld Z T223.heap wl_16 "java/util/ArrayList" "size" "I" (.int (3 : Int32)) := p223_9
        have pv223_10 : Fld Z T223.heap wl_16 "java/util/AbstractList" "modCount" "I" (.int (3 : Int32)) := p223_10
        have pv223_11 : Arv Z T223.heap ar1_175 kr1_175 (.object "java/lang/Object") (10 : Int32) [(.ref cc1_175), (.ref cc1_182), (.ref cc1_223), .null, .null, .null, .null, .null, .null, .null] .null := p223_11
        have pv223_12 : Arv Z T223.heap ar2_175 kr2_175 (.object "java/lang/Object") (10 : Int32) [.null, (.ref cc2_182), .null, .null, .null, .null, .null, .null, .null, .null] .null := p223_12
        show Ga _ _ _ _ _ _ _ _ _ _ _ []
        refine g_aload X223 hx (hb hby at_128) rfl rfl rfl ?_
        refine g_iconst X223 hx (r := (0 : Int32)) (hb hby at_130) rfl rfl ?_
        refine g_aload X223 hx (hb hby at_131) rfl rfl rfl ?_
        refine g_iconst X223 hx (r := (0 : Int32)) (hb hby at_133) rfl rfl ?_
        have f233 : Arv Z T223.heap b1 ka1 .byte (2 : Int32) [(.int (p0.toInt8.toInt32)), (.int (((p0.toUInt32 >>> ((8 : Int32) &&& 31).toUInt32).toInt32).toInt8.toInt32))] (.int (0 : Int32)) := (f229.keep kc223 (ninS ne_b1_kl_16 (ninS ne_b1_wl_16 (ninS ne_b1_ar1_175 (ninS ne_b1_ar2_175 nin0)))))
        refine g_baload X223 hx hZ rfl f233 (v := (.int (p0.toInt8.toInt32))) ⟨by decide, by decide⟩ rfl (hb hby at_134) rfl ?_
        refine g_iconst X223 hx (r := (-1 : Int32)) (hb hby at_135) rfl rfl ?_
        refine g_ixor X223 hx (hb hby at_136) rfl rfl ?_
        refine g_i2b X223 hx (hb hby at_137) rfl rfl ?_
        refine g_bastore X223 hx hZ rfl f233 ⟨by decide, by decide⟩ (Nat.le_of_ble_eq_true rfl) (hb hby at_138) rfl fun T234 h234 X234 e234 W234 V234 => ?_
        rw [own_nar, own_bb] at V234
        have Vn234 : Arv Z h234 b1 ka1 .byte (2 : Int32) [(.int (((p0.toInt8.toInt32) ^^^ (-1 : Int32)).toInt8.toInt32)), (.int (((p0.toUInt32 >>> ((8 : Int32) &&& 31).toUInt32).toInt32).toInt8.toInt32))] (.int (0 : Int32)) := V234
        have N234 := Fr.snoc X234 N223 g_b1
        have Z234 : n0 ≤ h234.size := by rw [W234.size]; exact Z223
        refine g_aload X234 hx (hb hby at_139) rfl rfl rfl ?_
        refine g_iconst X234 hx (r := (1 : Int32)) (hb hby at_141) rfl rfl ?_
        refine g_aload X234 hx (hb hby at_142) rfl rfl rfl ?_
        refine g_iconst X234 hx (r := (1 : Int32)) (hb hby at_144) rfl rfl ?_
        refine g_baload X234 hx hZ e234 Vn234 (v := (.int (((p0.toUInt32 >>> ((8 : Int32) &&& 31).toUInt32).toInt32).toInt8.toInt32))) ⟨by decide, by decide⟩ rfl (hb hby at_145) rfl ?_
        refine g_iconst X234 hx (r := (-1 : Int32)) (hb hby at_146) rfl rfl ?_
        refine g_ixor X234 hx (hb hby at_147) rfl rfl ?_
        refine g_i2b X234 hx (hb hby at_148) rfl rfl ?_
        refine g_bastore X234 hx hZ e234 Vn234 ⟨by decide, by decide⟩ (Nat.le_of_ble_eq_true rfl) (hb hby at_149) rfl fun T235 h235 X235 e235 W235 V235 => ?_
        rw [own_nar, own_bb] at V235
        have Vn235 : Arv Z h235 b1 ka1 .byte (2 : Int32) [(.int (((p0.toInt8.toInt32) ^^^ (-1 : Int32)).toInt8.toInt32)), (.int (((((p0.toUInt32 >>> ((8 : Int32) &&& 31).toUInt32).toInt32).toInt8.toInt32) ^^^ (-1 : Int32)).toInt8.toInt32))] (.int (0 : Int32)) := V235
        have N235 := Fr.snoc X235 N234 g_b1
        have Z235 : n0 ≤ h235.size := by rw [W235.size]; exact Z234
        refine g_aload X235 hx (hb hby at_150) rfl rfl rfl ?_
        refine g_iconst X235 hx (r := (0 : Int32)) (hb hby at_152) rfl rfl ?_
        refine g_aload X235 hx (hb hby at_153) rfl rfl rfl ?_
        refine g_iconst X235 hx (r := (0 : Int32)) (hb hby at_155) rfl rfl ?_
        have f236 : Arv Z h235 b4 ka4 .byte (1 : Int32) [(.int (p1.toInt8.toInt32))] (.int (0 : Int32)) := (((f230.keep kc223 (ninS ne_b4_kl_16 (ninS ne_b4_wl_16 (ninS ne_b4_ar1_175 (ninS ne_b4_ar2_175 nin0))))).other W234 (Ne.symm ne_b1_b4)).other W235 (Ne.symm ne_b1_b4))
        refine g_baload X235 hx hZ e235 f236 (v := (.int (p1.toInt8.toInt32))) ⟨by decide, by decide⟩ rfl (hb hby at_156) rfl ?_
        refine g_iconst X235 hx (r := (-1 : Int32)) (hb hby at_157) rfl rfl ?_
        refine g_ixor X235 hx (hb hby at_158) rfl rfl ?_
        refine g_i2b X235 hx (hb hby at_159) rfl rfl ?_
        refine g_bastore X235 hx hZ e235 f236 ⟨by decide, by decide⟩ (Nat.le_of_ble_eq_true rfl) (hb hby at_160) rfl fun T237 h237 X237 e237 W237 V237 => ?_
        rw [own_nar, own_bb] at V237
        have Vn237 : Arv Z h237 b4 ka4 .byte (1 : Int32) [(.int (((p1.toInt8.toInt32) ^^^ (-1 : Int32)).toInt8.toInt32))] (.int (0 : Int32)) := V237
        have N237 := Fr.snoc X237 N235 g_b4
        have Z237 : n0 ≤ h237.size := by rw [W237.size]; exact Z235
        refine g_aload X237 hx (hb hby at_161) rfl rfl rfl ?_
        refine g_iconst X237 hx (r := (0 : Int32)) (hb hby at_163) rfl rfl ?_
        have f239 : Fld Z h237 b12 "com/example/covering/covering/store/Batch" "keys" "Ljava/util/List;" (.ref kl_16) := ((((f224.keep kc223 (ninS ne_b12_kl_16 (ninS ne_b12_wl_16 (ninS ne_b12_ar1_175 (ninS ne_b12_ar2_175 nin0))))).other W234 (Or.inl (Ne.symm ne_b1_b12))).other W235 (Or.inl (Ne.symm ne_b1_b12))).other W237 (Or.inl (Ne.symm ne_b4_b12)))
        have f240 : Fld Z h237 kl_16 "java/util/ArrayList" "size" "I" (.int (3 : Int32)) := (((pv223_6.other W234 (Or.inl (Ne.symm ne_b1_kl_16))).other W235 (Or.inl (Ne.symm ne_b1_kl_16))).other W237 (Or.inl (Ne.symm ne_b4_kl_16)))
        have f241 : Fld Z h237 kl_16 "java/util/ArrayList" "elementData" "[Ljava/lang/Object;" (.ref ar1_175) := (((p223_5.other W234 (Or.inl (Ne.symm ne_b1_kl_16))).other W235 (Or.inl (Ne.symm ne_b1_kl_16))).other W237 (Or.inl (Ne.symm ne_b4_kl_16)))
        have f242 : Arv Z h237 ar1_175 kr1_175 (.object "java/lang/Object") (10 : Int32) [(.ref cc1_175), (.ref cc1_182), (.ref cc1_223), .null, .null, .null, .null, .null, .null, .null] .null := (((pv223_11.other W234 (Ne.symm ne_b1_ar1_175)).other W235 (Ne.symm ne_b1_ar1_175)).other W237 (Ne.symm ne_b4_ar1_175))
        have f243 : Exa Z h237 kl_16 "java/util/ArrayList" := (((p223_1.wr W234).wr W235).wr W237)
        have f244 : Exa Z h237 cc1_175 "[B" := ((((f232.keep kc223).wr W234).wr W235).wr W237)
        have f245 : Exa Z h237 b12 "com/example/covering/covering/store/Batch" := ((((f226.keep kc223).wr W234).wr W235).wr W237)
        refine g_virtual X237 hx hZ hown (hw _ (List.mem_of_getElem? (i := 96) rfl)) (hw _ (List.mem_of_getElem? (i := 97) rfl)) (notFace_of_selects (args := #[]) (mvT hZ (hw _ (List.mem_of_getElem? (i := 99) rfl)))) (hw _ (List.mem_of_getElem? (i := 99) rfl)) (hw _ (List.mem_of_getElem? (i := 98) rfl)) (hw _ (List.mem_of_getElem? (i := 3) rfl)) (hw _ (List.mem_of_getElem? (i := 100) rfl)) (by decide) (a := b12) f245 (rm_key l Z a0 hw b12 kl_16 ar1_175 kr1_175 (3 : Int32) [(.ref cc1_175), (.ref cc1_182), (.ref cc1_223), .null, .null, .null, .null, .null, .null, .null] (0 : Int32) cc1_175 h237 n0 Z237 f239 f240 f241 f242 f243 (by first | decide | assumption | rfl | (intro _; rfl)) (by first | decide | assumption | rfl | (intro _; rfl)) (by first | decide | assumption | rfl | (intro _; rfl)) (by first | decide | assumption | rfl | (intro _; rfl)) (Ins.self f244)) (by rw [hml]; rfl) e237 [(.int (0 : Int32))] rfl rfl (W := 0) (Nat.le_of_eq rfl) (by decide) (by decide) (by decide) (by decide) (lenOf pd_11 rfl) (hb hby at_164) rfl fun v238 T238 L238 X238 hQ238 => ?_
        obtain ⟨rfl, Nq238, eh238⟩ := hQ238
        have N238 := Fr.app N237 Nq238
        show Ga _ _ _ _ _ _ _ _ _ _ _ [(.ref cc1_175)]
        refine g_astore X238 hx (Ls' := #[.val (.int p0), .val (.int p1), .val (.int p2), .val (.int p3), .val (.int (p0.toInt8.toInt32)), .val (.int (((p0.toUInt32 >>> ((8 : Int32) &&& 31).toUInt32).toInt32).toInt8.toInt32)), .val (.int (p1.toInt8.toInt32)), .val (.ref b1), .val (.ref b4), .val (.ref b6), .val (.ref b8), .val (.ref b12), .val (.ref cc1_175), .unset, .unset]) (hb hby at_167) rfl rfl rfl ?_
        refine g_aload X238 hx (hb hby at_169) rfl rfl rfl ?_
        refine g_iconst X238 hx (r := (1 : Int32)) (hb hby at_171) rfl rfl ?_
        have f247 : Exa Z h237 cc1_182 "[B" := ((((p182_5.keep kc223).wr W234).wr W235).wr W237)
        refine g_virtual X238 hx hZ hown (hw _ (List.mem_of_getElem? (i := 96) rfl)) (hw _ (List.mem_of_getElem? (i := 97) rfl)) (notFace_of_selects (args := #[]) (mvT hZ (hw _ (List.mem_of_getElem? (i := 99) rfl)))) (hw _ (List.mem_of_getElem? (i := 99) rfl)) (hw _ (List.mem_of_getElem? (i := 98) rfl)) (hw _ (List.mem_of_getElem? (i := 3) rfl)) (hw _ (List.mem_of_getElem? (i := 100) rfl)) (by decide) (a := b12) f245 (rm_key l Z a0 hw b12 kl_16 ar1_175 kr1_175 (3 : Int32) [(.ref cc1_175), (.ref cc1_182), (.ref cc1_223), .null, .null, .null, .null, .null, .null, .null] (1 : Int32) cc1_182 h237 n0 Z237 f239 f240 f241 f242 f243 (by first | decide | assumption | rfl | (intro _; rfl)) (by first | decide | assumption | rfl | (intro _; rfl)) (by first | decide | assumption | rfl | (intro _; rfl)) (by first | decide | assumption | rfl | (intro _; rfl)) (Ins.self f247)) (by rw [hml]; rfl) eh238 [(.int (1 : Int32))] rfl rfl (W := 0) (Nat.le_of_eq rfl) (by decide) (by decide) (by decide) (by decide) (lenOf pd_11 rfl) (hb hby at_172) rfl fun v246 T246 L246 X246 hQ246 => ?_
        obtain ⟨rfl, Nq246, eh246⟩ := hQ246
        have N246 := Fr.app N238 Nq246
        show Ga _ _ _ _ _ _ _ _ _ _ _ [(.ref cc1_182)]
        refine g_astore X246 hx (Ls' := #[.val (.int p0), .val (.int p1), .val (.int p2), .val (.int p3), .val (.int (p0.toInt8.toInt32)), .val (.int (((p0.toUInt32 >>> ((8 : Int32) &&& 31).toUInt32).toInt32).toInt8.toInt32)), .val (.int (p1.toInt8.toInt32)), .val (.ref b1), .val (.ref b4), .val (.ref b6), .val (.ref b8), .val (.ref b12), .val (.ref cc1_175), .val (.ref cc1_182), .unset]) (hb hby at_175) rfl rfl rfl ?_
        refine g_aload X246 hx (hb hby at_177) rfl rfl rfl ?_
        refine g_iconst X246 hx (r := (2 : Int32)) (hb hby at_179) rfl rfl ?_
        have f249 : Exa Z h237 cc1_223 "[B" := (((p223_3.wr W234).wr W235).wr W237)
        refine g_virtual X246 hx hZ hown (hw _ (List.mem_of_getElem? (i := 96) rfl)) (hw _ (List.mem_of_getElem? (i := 97) rfl)) (notFace_of_selects (args := #[]) (mvT hZ (hw _ (List.mem_of_getElem? (i := 99) rfl)))) (hw _ (List.mem_of_getElem? (i := 99) rfl)) (hw _ (List.mem_of_getElem? (i := 98) rfl)) (hw _ (List.mem_of_getElem? (i := 3) rfl)) (hw _ (List.mem_of_getElem? (i := 100) rfl)) (by decide) (a := b12) f245 (rm_key l Z a0 hw b12 kl_16 ar1_175 kr1_175 (3 : Int32) [(.ref cc1_175), (.ref cc1_182), (.ref cc1_223), .null, .null, .null, .null, .null, .null, .null] (2 : Int32) cc1_223 h237 n0 Z237 f239 f240 f241 f242 f243 (by first | decide | assumption | rfl | (intro _; rfl)) (by first | decide | assumption | rfl | (intro _; rfl)) (by first | decide | assumption | rfl | (intro _; rfl)) (by first | decide | assumption | rfl | (intro _; rfl)) (Ins.self f249)) (by rw [hml]; rfl) eh246 [(.int (2 : Int32))] rfl rfl (W := 0) (Nat.le_of_eq rfl) (by decide) (by decide) (by decide) (by decide) (lenOf pd_11 rfl) (hb hby at_180) rfl fun v248 T248 L248 X248 hQ248 => ?_
        obtain ⟨rfl, Nq248, eh248⟩ := hQ248
        have N248 := Fr.app N246 Nq248
        show Ga _ _ _ _ _ _ _ _ _ _ _ [(.ref cc1_223)]
        refine g_astore X248 hx (Ls' := #[.val (.int p0), .val (.int p1), .val (.int p2), .val (.int p3), .val (.int (p0.toInt8.toInt32)), .val (.int (((p0.toUInt32 >>> ((8 : Int32) &&& 31).toUInt32).toInt32).toInt8.toInt32)), .val (.int (p1.toInt8.toInt32)), .val (.ref b1), .val (.ref b4), .val (.ref b6), .val (.ref b8), .val (.ref b12), .val (.ref cc1_175), .val (.ref cc1_182), .val (.ref cc1_223)]) (hb hby at_183) rfl rfl rfl ?_
        refine g_aload X248 hx (hb hby at_185) rfl rfl rfl ?_
        refine g_ifnullN X248 hx (hb hby at_187) rfl  ?_
        refine g_aload X248 hx (hb hby at_190) rfl rfl rfl ?_
        refine g_ifnullN X248 hx (hb hby at_192) rfl  ?_
        refine g_aload X248 hx (hb hby at_195) rfl rfl rfl ?_
        refine g_ifnonnullY X248 hx (q := 202) (hb hby at_197) (by decide) (by decide) ?_
        refine g_aload X248 hx (hb hby at_202) rfl rfl rfl ?_
        have f250 : Arv Z h237 cc1_175 ka1 .byte (2 : Int32) [(.int (p0.toInt8.toInt32)), (.int (((p0.toUInt32 >>> ((8 : Int32) &&& 31).toUInt32).toInt32).toInt8.toInt32))] (.int (0 : Int32)) := (((((pv175_9.keep kc182 (ninS (Ne.symm ne_kl_16_cc1_175) (ninS (Ne.symm ne_wl_16_cc1_175) (ninS p175_3 (ninS p175_4 nin0))))).keep kc223 (ninS (Ne.symm ne_kl_16_cc1_175) (ninS (Ne.symm ne_wl_16_cc1_175) (ninS p175_3 (ninS p175_4 nin0))))).other W234 (Ne.symm ne_b1_cc1_175)).other W235 (Ne.symm ne_b1_cc1_175)).other W237 (Ne.symm ne_b4_cc1_175))
        refine g_len X248 hx hZ eh248 f250 (hb hby at_204) rfl ?_
        refine g_iconst X248 hx (r := (2 : Int32)) (hb hby at_205) rfl rfl ?_
        refine g_icmpN X248 hx (hb hby at_206) rfl (XT.ii_ne_f (by decide : (2 : Int32) = (2 : Int32))) ?_
        refine g_aload X248 hx (hb hby at_209) rfl rfl rfl ?_
        refine g_iconst X248 hx (r := (0 : Int32)) (hb hby at_211) rfl rfl ?_
        refine g_baload X248 hx hZ eh248 f250 (v := (.int (p0.toInt8.toInt32))) ⟨by decide, by decide⟩ rfl (hb hby at_212) rfl ?_
        refine g_iload X248 hx (hb hby at_213) rfl rfl ?_
        refine g_icmpN X248 hx (hb hby at_215) rfl (XT.ii_ne_f rfl) ?_
        refine g_aload X248 hx (hb hby at_218) rfl rfl rfl ?_
        refine g_iconst X248 hx (r := (1 : Int32)) (hb hby at_220) rfl rfl ?_
        refine g_baload X248 hx hZ eh248 f250 (v := (.int (((p0.toUInt32 >>> ((8 : Int32) &&& 31).toUInt32).toInt32).toInt8.toInt32))) ⟨by decide, by decide⟩ rfl (hb hby at_221) rfl ?_
        refine g_iload X248 hx (hb hby at_222) rfl rfl ?_
        refine g_icmpN X248 hx (hb hby at_224) rfl (XT.ii_ne_f rfl) ?_
        refine g_aload X248 hx (hb hby at_227) rfl rfl rfl ?_
        have f251 : Arv Z h237 cc1_182 ka4 .byte (1 : Int32) [(.int (p1.toInt8.toInt32))] (.int (0 : Int32)) := ((((pv182_6.keep kc223 (ninS (Ne.symm ne_kl_16_cc1_182) (ninS (Ne.symm ne_wl_16_cc1_182) (ninS (Ne.symm ne_ar1_175_cc1_182) (ninS (Ne.symm ne_ar2_175_cc1_182) nin0))))).other W234 (Ne.symm ne_b1_cc1_182)).other W235 (Ne.symm ne_b1_cc1_182)).other W237 (Ne.symm ne_b4_cc1_182))
        refine g_len X248 hx hZ eh248 f251 (hb hby at_229) rfl ?_
        refine g_iconst X248 hx (r := (1 : Int32)) (hb hby at_230) rfl rfl ?_
        refine g_icmpN X248 hx (hb hby at_231) rfl (XT.ii_ne_f (by decide : (1 : Int32) = (1 : Int32))) ?_
        refine g_aload X248 hx (hb hby at_234) rfl rfl rfl ?_
        refine g_iconst X248 hx (r := (0 : Int32)) (hb hby at_236) rfl rfl ?_
        refine g_baload X248 hx hZ eh248 f251 (v := (.int (p1.toInt8.toInt32))) ⟨by decide, by decide⟩ rfl (hb hby at_237) rfl ?_
        refine g_iload X248 hx (hb hby at_238) rfl rfl ?_
        refine g_icmpN X248 hx (hb hby at_240) rfl (XT.ii_ne_f rfl) ?_
        refine g_aload X248 hx (hb hby at_243) rfl rfl rfl ?_
        have f252 : Arv Z h237 cc1_223 ka6 .byte (0 : Int32) [] (.int (0 : Int32)) := (((pv223_4.other W234 (Ne.symm ne_b1_cc1_223)).other W235 (Ne.symm ne_b1_cc1_223)).other W237 (Ne.symm ne_b4_cc1_223))
        refine g_len X248 hx hZ eh248 f252 (hb hby at_245) rfl ?_
        refine g_ifN X248 hx (hb hby at_246) rfl (XT.i0_ne_f (by decide : (0 : Int32) = (0 : Int32))) ?_
        refine g_iconst X248 hx (r := (1 : Int32)) (hb hby at_249) rfl rfl ?_
        refine g_goto X248 hx (q := 254) (hb hby at_250) (by decide) (by decide) ?_
        exact g_retN X248 hx (t := .boolean) (r := (1 : Int32)) hret (by simp) hlk (hb hby at_254) rfl (by decide) (by decide) (by rw [eh248]; exact ⟨rfl, N248⟩)
    · skip
      refine g_ifN X175 hx (hb hby at_97) rfl (XT.i0_eq_f hc97) ?_
      refine g_iconst X175 hx (r := (1 : Int32)) (hb hby at_100) rfl rfl ?_
      refine g_goto X175 hx (q := 105) (hb hby at_101) (by decide) (by decide) ?_
      have f254 : Fld Z T175.heap b12 "com/example/covering/covering/store/Batch" "keys" "Ljava/util/List;" (.ref kl_16) := (p16_4.keep kc175 (ninS ne_b12_kl_16 (ninS ne_b12_wl_16 nin0)))
      have f255 : Fld Z T175.heap b12 "com/example/covering/covering/store/Batch" "values" "Ljava/util/List;" (.ref wl_16) := (p16_5.keep kc175 (ninS ne_b12_kl_16 (ninS ne_b12_wl_16 nin0)))
      have f256 : Exa Z T175.heap b12 "com/example/covering/covering/store/Batch" := (p16_3.keep kc175)
      have f257 : Exa Z T175.heap b4 "[B" := (((((((A4.wr W5).ext E6).ext E8).wr W11).ext E12).keep kc16).keep kc175)
      have f258 : Arv Z T175.heap b4 ka4 .byte (1 : Int32) [(.int (p1.toInt8.toInt32))] (.int (0 : Int32)) := (f179.keep kc175 (ninS ne_b4_kl_16 (ninS ne_b4_wl_16 nin0)))
      refine g_static X175 hx hZ hown (hw _ (List.mem_of_getElem? (i := 38) rfl)) (hw _ (List.mem_of_getElem? (i := 39) rfl)) (hw _ (List.mem_of_getElem? (i := 40) rfl)) (hw _ (List.mem_of_getElem? (i := 41) rfl)) (by decide) (rm_ladd0N l Z a0 hw b12 b4 ka4 (1 : Int32) [(.int (p1.toInt8.toInt32))] kl_16 wl_16 (1 : Int32) (1 : Int32) ar1_175 kr1_175 ar2_175 kr2_175 (1 : Int32) [(.ref cc1_175), .null, .null, .null, .null, .null, .null, .null, .null, .null] [.null, .null, .null, .null, .null, .null, .null, .null, .null, .null] b8 T175.heap n0 Z175 f254 f255 f256 p175_6 p175_7 g_kl_16 g_wl_16 p16_2 ne_b12_kl_16 ne_b12_wl_16 f257 f258 (by first | decide | assumption | rfl | (intro _; rfl)) p175_10 p175_11 pv175_12 p175_13 p175_14 pv175_15 pv175_18 pv175_19 p175_16 p175_17 g_ar1_175 g_ar2_175 p175_5 ne_b12_ar1_175 ne_b12_ar2_175 ne_kl_16_ar1_175 ne_kl_16_ar2_175 ne_wl_16_ar1_175 ne_wl_16_ar2_175 (by first | decide | assumption | rfl | (intro _; rfl)) (by first | decide | assumption | rfl | (intro _; rfl)) (by first | decide | assumption | rfl | (intro _; rfl)) (by first | decide | assumption | rfl | (intro _; rfl))) (by rw [hml]; rfl) rfl [(.ref b12), (.ref b4), (.ref b8), (.int (1 : Int32))] rfl rfl (W := 0) (Nat.le_of_eq rfl) (by decide) (by decide) (by decide) (by decide) (lenOf pd_10 rfl) (hb hby at_105) rfl fun v253 T253 L253 X253 hQ253 => ?_
      obtain ⟨cc1_253, rfl, Nq253, kc253, p253_0, p253_1, p253_2, p253_3, p253_4, p253_5, p253_6, p253_7, p253_8, p253_9, p253_10, p253_11, p253_12⟩ := hQ253
      have N253 := Fr.app N175 Nq253
      have f259 : Arv Z T175.heap b1 ka1 .byte (2 : Int32) [(.int (p0.toInt8.toInt32)), (.int (((p0.toUInt32 >>> ((8 : Int32) &&& 31).toUInt32).toInt32).toInt8.toInt32))] (.int (0 : Int32)) := (f177.keep kc175 (ninS ne_b1_kl_16 (ninS ne_b1_wl_16 nin0)))
      have f260 : Arv Z T175.heap b6 ka6 .byte (0 : Int32) [] (.int (0 : Int32)) := (f180.keep kc175 (ninS ne_b6_kl_16 (ninS ne_b6_wl_16 nin0)))
      have f261 : Arv Z T175.heap b8 ka8 .byte (1 : Int32) [(.int (p2.toInt8.toInt32))] (.int (0 : Int32)) := (f181.keep kc175 (ninS ne_b8_kl_16 (ninS ne_b8_wl_16 nin0)))
      have ne_ar1_175_cc1_253 : ar1_175 ≠ cc1_253 := own_neK pv175_18.lt p253_0
      have ne_ar2_175_cc1_253 : ar2_175 ≠ cc1_253 := own_neK pv175_19.lt p253_0
      have ne_b1_cc1_253 : b1 ≠ cc1_253 := own_neK f259.lt p253_0
      have ne_b12_cc1_253 : b12 ≠ cc1_253 := own_neK f256.lt p253_0
      have ne_b4_cc1_253 : b4 ≠ cc1_253 := own_neK f258.lt p253_0
      have ne_b6_cc1_253 : b6 ≠ cc1_253 := own_neK f260.lt p253_0
      have ne_b8_cc1_253 : b8 ≠ cc1_253 := own_neK f261.lt p253_0
      have ne_cc1_175_cc1_253 : cc1_175 ≠ cc1_253 := own_neK p175_8.lt p253_0
      have ne_kl_16_cc1_253 : kl_16 ≠ cc1_253 := own_neK p175_6.lt p253_0
      have ne_wl_16_cc1_253 : wl_16 ≠ cc1_253 := own_neK p175_7.lt p253_0
      have g_cc1_253 : n0 ≤ cc1_253 := Nat.le_trans Z175 p253_0
      have Z253 : n0 ≤ T253.heap.size := Nat.le_trans Z175 kc253.1
      have pv253_4 : Arv Z T253.heap cc1_253 ka4 .byte (1 : Int32) [(.int (p1.toInt8.toInt32))] (.int (0 : Int32)) := p253_4
      have pv253_6 : Fld Z T253.heap kl_16 "java/util/ArrayList" "size" "I" (.int (2 : Int32)) := p253_6
      have pv253_7 : Fld Z T253.heap kl_16 "java/util/AbstractList" "modCount" "I" (.int (2 : Int32)) := p253_7
      have pv253_9 : Fld Z T253.heap wl_16 "java/util/ArrayList" "size" "I" (.int (2 : Int32)) := p253_9
      have pv253_10 : Fld Z T253.heap wl_16 "java/util/AbstractList" "modCount" "I" (.int (2 : Int32)) := p253_10
      have pv253_11 : Arv Z T253.heap ar1_175 kr1_175 (.object "java/lang/Object") (10 : Int32) [(.ref cc1_175), (.ref cc1_253), .null, .null, .null, .null, .null, .null, .null, .null] .null := p253_11
      have pv253_12 : Arv Z T253.heap ar2_175 kr2_175 (.object "java/lang/Object") (10 : Int32) [.null, .null, .null, .null, .null, .null, .null, .null, .null, .null] .null := p253_12
      show Ga _ _ _ _ _ _ _ _ _ _ _ []
      refine g_aload X253 hx (hb hby at_108) rfl rfl rfl ?_
      refine g_aload X253 hx (hb hby at_110) rfl rfl rfl ?_
      refine g_aload X253 hx (hb hby at_112) rfl rfl rfl ?_
      refine g_iloadN X253 hx (hb hby at_114) rfl rfl ?_
      refine g_iconst X253 hx (r := (4 : Int32)) (hb hby at_115) rfl rfl ?_
      refine g_iand X253 hx (hb hby at_116) rfl rfl ?_
      by_cases hc117 : (p3 &&& (4 : Int32)) = (0 : Int32)
      · skip
        refine g_ifY X253 hx (q := 124) (hb hby at_117) (XT.i0_eq_t hc117) (by decide) (by decide) ?_
        refine g_iconst X253 hx (r := (0 : Int32)) (hb hby at_124) rfl rfl ?_
        have f263 : Fld Z T253.heap b12 "com/example/covering/covering/store/Batch" "keys" "Ljava/util/List;" (.ref kl_16) := (f254.keep kc253 (ninS ne_b12_kl_16 (ninS ne_b12_wl_16 (ninS ne_b12_ar1_175 (ninS ne_b12_ar2_175 nin0)))))
        have f264 : Fld Z T253.heap b12 "com/example/covering/covering/store/Batch" "values" "Ljava/util/List;" (.ref wl_16) := (f255.keep kc253 (ninS ne_b12_kl_16 (ninS ne_b12_wl_16 (ninS ne_b12_ar1_175 (ninS ne_b12_ar2_175 nin0)))))
        have f265 : Exa Z T253.heap b12 "com/example/covering/covering/store/Batch" := (f256.keep kc253)
        have f266 : Exa Z T253.heap b6 "[B" := ((((((A6.ext E8).wr W11).ext E12).keep kc16).keep kc175).keep kc253)
        have f267 : Arv Z T253.heap b6 ka6 .byte (0 : Int32) [] (.int (0 : Int32)) := (f260.keep kc253 (ninS ne_b6_kl_16 (ninS ne_b6_wl_16 (ninS ne_b6_ar1_175 (ninS ne_b6_ar2_175 nin0)))))
        have f268 : Exa Z T253.heap b8 "[B" := (((((A8.wr W11).ext E12).keep kc16).keep kc175).keep kc253)
        have f269 : Arv Z T253.heap b8 ka8 .byte (1 : Int32) [(.int (p2.toInt8.toInt32))] (.int (0 : Int32)) := (f261.keep kc253 (ninS ne_b8_kl_16 (ninS ne_b8_wl_16 (ninS ne_b8_ar1_175 (ninS ne_b8_ar2_175 nin0)))))
        refine g_static X253 hx hZ hown (hw _ (List.mem_of_getElem? (i := 38) rfl)) (hw _ (List.mem_of_getElem? (i := 39) rfl)) (hw _ (List.mem_of_getElem? (i := 40) rfl)) (hw _ (List.mem_of_getElem? (i := 41) rfl)) (by decide) (rm_ladd1N l Z a0 hw b12 b6 ka6 (0 : Int32) [] kl_16 wl_16 (2 : Int32) (2 : Int32) ar1_175 kr1_175 ar2_175 kr2_175 (2 : Int32) [(.ref cc1_175), (.ref cc1_253), .null, .null, .null, .null, .null, .null, .null, .null] [.null, .null, .null, .null, .null, .null, .null, .null, .null, .null] b8 ka8 (1 : Int32) [(.int (p2.toInt8.toInt32))] T253.heap n0 Z253 f263 f264 f265 p253_1 p253_2 g_kl_16 g_wl_16 p16_2 ne_b12_kl_16 ne_b12_wl_16 f266 f267 (by first | decide | assumption | rfl | (intro _; rfl)) p253_5 pv253_6 pv253_7 p253_8 pv253_9 pv253_10 pv253_11 pv253_12 p175_16 p175_17 g_ar1_175 g_ar2_175 p175_5 ne_b12_ar1_175 ne_b12_ar2_175 ne_kl_16_ar1_175 ne_kl_16_ar2_175 ne_wl_16_ar1_175 ne_wl_16_ar2_175 (by first | decide | assumption | rfl | (intro _; rfl)) (by first | decide | assumption | rfl | (intro _; rfl)) (by first | decide | assumption | rfl | (intro _; rfl)) (by first | decide | assumption | rfl | (intro _; rfl)) ne_b8_kl_16 ne_b8_ar1_175 f268 f269 (by first | decide | assumption | rfl | (intro _; rfl))) (by rw [hml]; rfl) rfl [(.ref b12), (.ref b6), (.ref b8), (.int (0 : Int32))] rfl rfl (W := 0) (Nat.le_of_eq rfl) (by decide) (by decide) (by decide) (by decide) (lenOf pd_10 rfl) (hb hby at_125) rfl fun v262 T262 L262 X262 hQ262 => ?_
        obtain ⟨cc1_262, cc2_262, rfl, Nq262, kc262, p262_0, p262_1, p262_2, p262_3, p262_4, p262_5, p262_6, p262_7, p262_8, p262_9, p262_10, p262_11, p262_12, p262_13, p262_14, p262_15⟩ := hQ262
        have N262 := Fr.app N253 Nq262
        have f270 : Arv Z T253.heap b1 ka1 .byte (2 : Int32) [(.int (p0.toInt8.toInt32)), (.int (((p0.toUInt32 >>> ((8 : Int32) &&& 31).toUInt32).toInt32).toInt8.toInt32))] (.int (0 : Int32)) := (f259.keep kc253 (ninS ne_b1_kl_16 (ninS ne_b1_wl_16 (ninS ne_b1_ar1_175 (ninS ne_b1_ar2_175 nin0)))))
        have f271 : Arv Z T253.heap b4 ka4 .byte (1 : Int32) [(.int (p1.toInt8.toInt32))] (.int (0 : Int32)) := (f258.keep kc253 (ninS ne_b4_kl_16 (ninS ne_b4_wl_16 (ninS ne_b4_ar1_175 (ninS ne_b4_ar2_175 nin0)))))
        have f272 : Exa Z T253.heap cc1_175 "[B" := (p175_8.keep kc253)
        have ne_ar1_175_cc1_262 : ar1_175 ≠ cc1_262 := own_neK pv253_11.lt p262_0
        have ne_ar2_175_cc1_262 : ar2_175 ≠ cc1_262 := own_neK pv253_12.lt p262_0
        have ne_b1_cc1_262 : b1 ≠ cc1_262 := own_neK f270.lt p262_0
        have ne_b12_cc1_262 : b12 ≠ cc1_262 := own_neK f265.lt p262_0
        have ne_b4_cc1_262 : b4 ≠ cc1_262 := own_neK f271.lt p262_0
        have ne_b6_cc1_262 : b6 ≠ cc1_262 := own_neK f267.lt p262_0
        have ne_b8_cc1_262 : b8 ≠ cc1_262 := own_neK f269.lt p262_0
        have ne_cc1_175_cc1_262 : cc1_175 ≠ cc1_262 := own_neK f272.lt p262_0
        have ne_cc1_253_cc1_262 : cc1_253 ≠ cc1_262 := own_neK p253_3.lt p262_0
        have ne_kl_16_cc1_262 : kl_16 ≠ cc1_262 := own_neK p253_1.lt p262_0
        have ne_wl_16_cc1_262 : wl_16 ≠ cc1_262 := own_neK p253_2.lt p262_0
        have g_cc1_262 : n0 ≤ cc1_262 := Nat.le_trans Z253 p262_0
        have ne_ar1_175_cc2_262 : ar1_175 ≠ cc2_262 := own_neK pv253_11.lt p262_1
        have ne_ar2_175_cc2_262 : ar2_175 ≠ cc2_262 := own_neK pv253_12.lt p262_1
        have ne_b1_cc2_262 : b1 ≠ cc2_262 := own_neK f270.lt p262_1
        have ne_b12_cc2_262 : b12 ≠ cc2_262 := own_neK f265.lt p262_1
        have ne_b4_cc2_262 : b4 ≠ cc2_262 := own_neK f271.lt p262_1
        have ne_b6_cc2_262 : b6 ≠ cc2_262 := own_neK f267.lt p262_1
        have ne_b8_cc2_262 : b8 ≠ cc2_262 := own_neK f269.lt p262_1
        have ne_cc1_175_cc2_262 : cc1_175 ≠ cc2_262 := own_neK f272.lt p262_1
        have ne_cc1_253_cc2_262 : cc1_253 ≠ cc2_262 := own_neK p253_3.lt p262_1
        have ne_kl_16_cc2_262 : kl_16 ≠ cc2_262 := own_neK p253_1.lt p262_1
        have ne_wl_16_cc2_262 : wl_16 ≠ cc2_262 := own_neK p253_2.lt p262_1
        have g_cc2_262 : n0 ≤ cc2_262 := Nat.le_trans Z253 p262_1
        have Z262 : n0 ≤ T262.heap.size := Nat.le_trans Z253 kc262.1
        have pv262_6 : Arv Z T262.heap cc1_262 ka6 .byte (0 : Int32) [] (.int (0 : Int32)) := p262_6
        have pv262_9 : Fld Z T262.heap kl_16 "java/util/ArrayList" "size" "I" (.int (3 : Int32)) := p262_9
        have pv262_10 : Fld Z T262.heap kl_16 "java/util/AbstractList" "modCount" "I" (.int (3 : Int32)) := p262_10
        have pv262_12 : Fld Z T262.heap wl_16 "java/util/ArrayList" "size" "I" (.int (3 : Int32)) := p262_12
        have pv262_13 : Fld Z T262.heap wl_16 "java/util/AbstractList" "modCount" "I" (.int (3 : Int32)) := p262_13
        have pv262_14 : Arv Z T262.heap ar1_175 kr1_175 (.object "java/lang/Object") (10 : Int32) [(.ref cc1_175), (.ref cc1_253), (.ref cc1_262), .null, .null, .null, .null, .null, .null, .null] .null := p262_14
        have pv262_15 : Arv Z T262.heap ar2_175 kr2_175 (.object "java/lang/Object") (10 : Int32) [.null, .null, (.ref cc2_262), .null, .null, .null, .null, .null, .null, .null] .null := p262_15
        show Ga _ _ _ _ _ _ _ _ _ _ _ []
        refine g_aload X262 hx (hb hby at_128) rfl rfl rfl ?_
        refine g_iconst X262 hx (r := (0 : Int32)) (hb hby at_130) rfl rfl ?_
        refine g_aload X262 hx (hb hby at_131) rfl rfl rfl ?_
        refine g_iconst X262 hx (r := (0 : Int32)) (hb hby at_133) rfl rfl ?_
        have f273 : Arv Z T262.heap b1 ka1 .byte (2 : Int32) [(.int (p0.toInt8.toInt32)), (.int (((p0.toUInt32 >>> ((8 : Int32) &&& 31).toUInt32).toInt32).toInt8.toInt32))] (.int (0 : Int32)) := (f270.keep kc262 (ninS ne_b1_kl_16 (ninS ne_b1_wl_16 (ninS ne_b1_ar1_175 (ninS ne_b1_ar2_175 nin0)))))
        refine g_baload X262 hx hZ rfl f273 (v := (.int (p0.toInt8.toInt32))) ⟨by decide, by decide⟩ rfl (hb hby at_134) rfl ?_
        refine g_iconst X262 hx (r := (-1 : Int32)) (hb hby at_135) rfl rfl ?_
        refine g_ixor X262 hx (hb hby at_136) rfl rfl ?_
        refine g_i2b X262 hx (hb hby at_137) rfl rfl ?_
        refine g_bastore X262 hx hZ rfl f273 ⟨by decide, by decide⟩ (Nat.le_of_ble_eq_true rfl) (hb hby at_138) rfl fun T274 h274 X274 e274 W274 V274 => ?_
        rw [own_nar, own_bb] at V274
        have Vn274 : Arv Z h274 b1 ka1 .byte (2 : Int32) [(.int (((p0.toInt8.toInt32) ^^^ (-1 : Int32)).toInt8.toInt32)), (.int (((p0.toUInt32 >>> ((8 : Int32) &&& 31).toUInt32).toInt32).toInt8.toInt32))] (.int (0 : Int32)) := V274
        have N274 := Fr.snoc X274 N262 g_b1
        have Z274 : n0 ≤ h274.size := by rw [W274.size]; exact Z262
        refine g_aload X274 hx (hb hby at_139) rfl rfl rfl ?_
        refine g_iconst X274 hx (r := (1 : Int32)) (hb hby at_141) rfl rfl ?_
        refine g_aload X274 hx (hb hby at_142) rfl rfl rfl ?_
        refine g_iconst X274 hx (r := (1 : Int32)) (hb hby at_144) rfl rfl ?_
        refine g_baload X274 hx hZ e274 Vn274 (v := (.int (((p0.toUInt32 >>> ((8 : Int32) &&& 31).toUInt32).toInt32).toInt8.toInt32))) ⟨by decide, by decide⟩ rfl (hb hby at_145) rfl ?_
        refine g_iconst X274 hx (r := (-1 : Int32)) (hb hby at_146) rfl rfl ?_
        refine g_ixor X274 hx (hb hby at_147) rfl rfl ?_
        refine g_i2b X274 hx (hb hby at_148) rfl rfl ?_
        refine g_bastore X274 hx hZ e274 Vn274 ⟨by decide, by decide⟩ (Nat.le_of_ble_eq_true rfl) (hb hby at_149) rfl fun T275 h275 X275 e275 W275 V275 => ?_
        rw [own_nar, own_bb] at V275
        have Vn275 : Arv Z h275 b1 ka1 .byte (2 : Int32) [(.int (((p0.toInt8.toInt32) ^^^ (-1 : Int32)).toInt8.toInt32)), (.int (((((p0.toUInt32 >>> ((8 : Int32) &&& 31).toUInt32).toInt32).toInt8.toInt32) ^^^ (-1 : Int32)).toInt8.toInt32))] (.int (0 : Int32)) := V275
        have N275 := Fr.snoc X275 N274 g_b1
        have Z275 : n0 ≤ h275.size := by rw [W275.size]; exact Z274
        refine g_aload X275 hx (hb hby at_150) rfl rfl rfl ?_
        refine g_iconst X275 hx (r := (0 : Int32)) (hb hby at_152) rfl rfl ?_
        refine g_aload X275 hx (hb hby at_153) rfl rfl rfl ?_
        refine g_iconst X275 hx (r := (0 : Int32)) (hb hby at_155) rfl rfl ?_
        have f276 : Arv Z h275 b4 ka4 .byte (1 : Int32) [(.int (p1.toInt8.toInt32))] (.int (0 : Int32)) := (((f271.keep kc262 (ninS ne_b4_kl_16 (ninS ne_b4_wl_16 (ninS ne_b4_ar1_175 (ninS ne_b4_ar2_175 nin0))))).other W274 (Ne.symm ne_b1_b4)).other W275 (Ne.symm ne_b1_b4))
        refine g_baload X275 hx hZ e275 f276 (v := (.int (p1.toInt8.toInt32))) ⟨by decide, by decide⟩ rfl (hb hby at_156) rfl ?_
        refine g_iconst X275 hx (r := (-1 : Int32)) (hb hby at_157) rfl rfl ?_
        refine g_ixor X275 hx (hb hby at_158) rfl rfl ?_
        refine g_i2b X275 hx (hb hby at_159) rfl rfl ?_
        refine g_bastore X275 hx hZ e275 f276 ⟨by decide, by decide⟩ (Nat.le_of_ble_eq_true rfl) (hb hby at_160) rfl fun T277 h277 X277 e277 W277 V277 => ?_
        rw [own_nar, own_bb] at V277
        have Vn277 : Arv Z h277 b4 ka4 .byte (1 : Int32) [(.int (((p1.toInt8.toInt32) ^^^ (-1 : Int32)).toInt8.toInt32))] (.int (0 : Int32)) := V277
        have N277 := Fr.snoc X277 N275 g_b4
        have Z277 : n0 ≤ h277.size := by rw [W277.size]; exact Z275
        refine g_aload X277 hx (hb hby at_161) rfl rfl rfl ?_
        refine g_iconst X277 hx (r := (0 : Int32)) (hb hby at_163) rfl rfl ?_
        have f279 : Fld Z h277 b12 "com/example/covering/covering/store/Batch" "keys" "Ljava/util/List;" (.ref kl_16) := ((((f263.keep kc262 (ninS ne_b12_kl_16 (ninS ne_b12_wl_16 (ninS ne_b12_ar1_175 (ninS ne_b12_ar2_175 nin0))))).other W274 (Or.inl (Ne.symm ne_b1_b12))).other W275 (Or.inl (Ne.symm ne_b1_b12))).other W277 (Or.inl (Ne.symm ne_b4_b12)))
        have f280 : Fld Z h277 kl_16 "java/util/ArrayList" "size" "I" (.int (3 : Int32)) := (((pv262_9.other W274 (Or.inl (Ne.symm ne_b1_kl_16))).other W275 (Or.inl (Ne.symm ne_b1_kl_16))).other W277 (Or.inl (Ne.symm ne_b4_kl_16)))
        have f281 : Fld Z h277 kl_16 "java/util/ArrayList" "elementData" "[Ljava/lang/Object;" (.ref ar1_175) := (((p262_8.other W274 (Or.inl (Ne.symm ne_b1_kl_16))).other W275 (Or.inl (Ne.symm ne_b1_kl_16))).other W277 (Or.inl (Ne.symm ne_b4_kl_16)))
        have f282 : Arv Z h277 ar1_175 kr1_175 (.object "java/lang/Object") (10 : Int32) [(.ref cc1_175), (.ref cc1_253), (.ref cc1_262), .null, .null, .null, .null, .null, .null, .null] .null := (((pv262_14.other W274 (Ne.symm ne_b1_ar1_175)).other W275 (Ne.symm ne_b1_ar1_175)).other W277 (Ne.symm ne_b4_ar1_175))
        have f283 : Exa Z h277 kl_16 "java/util/ArrayList" := (((p262_3.wr W274).wr W275).wr W277)
        have f284 : Exa Z h277 cc1_175 "[B" := ((((f272.keep kc262).wr W274).wr W275).wr W277)
        have f285 : Exa Z h277 b12 "com/example/covering/covering/store/Batch" := ((((f265.keep kc262).wr W274).wr W275).wr W277)
        refine g_virtual X277 hx hZ hown (hw _ (List.mem_of_getElem? (i := 96) rfl)) (hw _ (List.mem_of_getElem? (i := 97) rfl)) (notFace_of_selects (args := #[]) (mvT hZ (hw _ (List.mem_of_getElem? (i := 99) rfl)))) (hw _ (List.mem_of_getElem? (i := 99) rfl)) (hw _ (List.mem_of_getElem? (i := 98) rfl)) (hw _ (List.mem_of_getElem? (i := 3) rfl)) (hw _ (List.mem_of_getElem? (i := 100) rfl)) (by decide) (a := b12) f285 (rm_key l Z a0 hw b12 kl_16 ar1_175 kr1_175 (3 : Int32) [(.ref cc1_175), (.ref cc1_253), (.ref cc1_262), .null, .null, .null, .null, .null, .null, .null] (0 : Int32) cc1_175 h277 n0 Z277 f279 f280 f281 f282 f283 (by first | decide | assumption | rfl | (intro _; rfl)) (by first | decide | assumption | rfl | (intro _; rfl)) (by first | decide | assumption | rfl | (intro _; rfl)) (by first | decide | assumption | rfl | (intro _; rfl)) (Ins.self f284)) (by rw [hml]; rfl) e277 [(.int (0 : Int32))] rfl rfl (W := 0) (Nat.le_of_eq rfl) (by decide) (by decide) (by decide) (by decide) (lenOf pd_11 rfl) (hb hby at_164) rfl fun v278 T278 L278 X278 hQ278 => ?_
        obtain ⟨rfl, Nq278, eh278⟩ := hQ278
        have N278 := Fr.app N277 Nq278
        show Ga _ _ _ _ _ _ _ _ _ _ _ [(.ref cc1_175)]
        refine g_astore X278 hx (Ls' := #[.val (.int p0), .val (.int p1), .val (.int p2), .val (.int p3), .val (.int (p0.toInt8.toInt32)), .val (.int (((p0.toUInt32 >>> ((8 : Int32) &&& 31).toUInt32).toInt32).toInt8.toInt32)), .val (.int (p1.toInt8.toInt32)), .val (.ref b1), .val (.ref b4), .val (.ref b6), .val (.ref b8), .val (.ref b12), .val (.ref cc1_175), .unset, .unset]) (hb hby at_167) rfl rfl rfl ?_
        refine g_aload X278 hx (hb hby at_169) rfl rfl rfl ?_
        refine g_iconst X278 hx (r := (1 : Int32)) (hb hby at_171) rfl rfl ?_
        have f287 : Exa Z h277 cc1_253 "[B" := ((((p253_3.keep kc262).wr W274).wr W275).wr W277)
        refine g_virtual X278 hx hZ hown (hw _ (List.mem_of_getElem? (i := 96) rfl)) (hw _ (List.mem_of_getElem? (i := 97) rfl)) (notFace_of_selects (args := #[]) (mvT hZ (hw _ (List.mem_of_getElem? (i := 99) rfl)))) (hw _ (List.mem_of_getElem? (i := 99) rfl)) (hw _ (List.mem_of_getElem? (i := 98) rfl)) (hw _ (List.mem_of_getElem? (i := 3) rfl)) (hw _ (List.mem_of_getElem? (i := 100) rfl)) (by decide) (a := b12) f285 (rm_key l Z a0 hw b12 kl_16 ar1_175 kr1_175 (3 : Int32) [(.ref cc1_175), (.ref cc1_253), (.ref cc1_262), .null, .null, .null, .null, .null, .null, .null] (1 : Int32) cc1_253 h277 n0 Z277 f279 f280 f281 f282 f283 (by first | decide | assumption | rfl | (intro _; rfl)) (by first | decide | assumption | rfl | (intro _; rfl)) (by first | decide | assumption | rfl | (intro _; rfl)) (by first | decide | assumption | rfl | (intro _; rfl)) (Ins.self f287)) (by rw [hml]; rfl) eh278 [(.int (1 : Int32))] rfl rfl (W := 0) (Nat.le_of_eq rfl) (by decide) (by decide) (by decide) (by decide) (lenOf pd_11 rfl) (hb hby at_172) rfl fun v286 T286 L286 X286 hQ286 => ?_
        obtain ⟨rfl, Nq286, eh286⟩ := hQ286
        have N286 := Fr.app N278 Nq286
        show Ga _ _ _ _ _ _ _ _ _ _ _ [(.ref cc1_253)]
        refine g_astore X286 hx (Ls' := #[.val (.int p0), .val (.int p1), .val (.int p2), .val (.int p3), .val (.int (p0.toInt8.toInt32)), .val (.int (((p0.toUInt32 >>> ((8 : Int32) &&& 31).toUInt32).toInt32).toInt8.toInt32)), .val (.int (p1.toInt8.toInt32)), .val (.ref b1), .val (.ref b4), .val (.ref b6), .val (.ref b8), .val (.ref b12), .val (.ref cc1_175), .val (.ref cc1_253), .unset]) (hb hby at_175) rfl rfl rfl ?_
        refine g_aload X286 hx (hb hby at_177) rfl rfl rfl ?_
        refine g_iconst X286 hx (r := (2 : Int32)) (hb hby at_179) rfl rfl ?_
        have f289 : Exa Z h277 cc1_262 "[B" := (((p262_5.wr W274).wr W275).wr W277)
        refine g_virtual X286 hx hZ hown (hw _ (List.mem_of_getElem? (i := 96) rfl)) (hw _ (List.mem_of_getElem? (i := 97) rfl)) (notFace_of_selects (args := #[]) (mvT hZ (hw _ (List.mem_of_getElem? (i := 99) rfl)))) (hw _ (List.mem_of_getElem? (i := 99) rfl)) (hw _ (List.mem_of_getElem? (i := 98) rfl)) (hw _ (List.mem_of_getElem? (i := 3) rfl)) (hw _ (List.mem_of_getElem? (i := 100) rfl)) (by decide) (a := b12) f285 (rm_key l Z a0 hw b12 kl_16 ar1_175 kr1_175 (3 : Int32) [(.ref cc1_175), (.ref cc1_253), (.ref cc1_262), .null, .null, .null, .null, .null, .null, .null] (2 : Int32) cc1_262 h277 n0 Z277 f279 f280 f281 f282 f283 (by first | decide | assumption | rfl | (intro _; rfl)) (by first | decide | assumption | rfl | (intro _; rfl)) (by first | decide | assumption | rfl | (intro _; rfl)) (by first | decide | assumption | rfl | (intro _; rfl)) (Ins.self f289)) (by rw [hml]; rfl) eh286 [(.int (2 : Int32))] rfl rfl (W := 0) (Nat.le_of_eq rfl) (by decide) (by decide) (by decide) (by decide) (lenOf pd_11 rfl) (hb hby at_180) rfl fun v288 T288 L288 X288 hQ288 => ?_
        obtain ⟨rfl, Nq288, eh288⟩ := hQ288
        have N288 := Fr.app N286 Nq288
        show Ga _ _ _ _ _ _ _ _ _ _ _ [(.ref cc1_262)]
        refine g_astore X288 hx (Ls' := #[.val (.int p0), .val (.int p1), .val (.int p2), .val (.int p3), .val (.int (p0.toInt8.toInt32)), .val (.int (((p0.toUInt32 >>> ((8 : Int32) &&& 31).toUInt32).toInt32).toInt8.toInt32)), .val (.int (p1.toInt8.toInt32)), .val (.ref b1), .val (.ref b4), .val (.ref b6), .val (.ref b8), .val (.ref b12), .val (.ref cc1_175), .val (.ref cc1_253), .val (.ref cc1_262)]) (hb hby at_183) rfl rfl rfl ?_
        refine g_aload X288 hx (hb hby at_185) rfl rfl rfl ?_
        refine g_ifnullN X288 hx (hb hby at_187) rfl  ?_
        refine g_aload X288 hx (hb hby at_190) rfl rfl rfl ?_
        refine g_ifnullN X288 hx (hb hby at_192) rfl  ?_
        refine g_aload X288 hx (hb hby at_195) rfl rfl rfl ?_
        refine g_ifnonnullY X288 hx (q := 202) (hb hby at_197) (by decide) (by decide) ?_
        refine g_aload X288 hx (hb hby at_202) rfl rfl rfl ?_
        have f290 : Arv Z h277 cc1_175 ka1 .byte (2 : Int32) [(.int (p0.toInt8.toInt32)), (.int (((p0.toUInt32 >>> ((8 : Int32) &&& 31).toUInt32).toInt32).toInt8.toInt32))] (.int (0 : Int32)) := (((((pv175_9.keep kc253 (ninS (Ne.symm ne_kl_16_cc1_175) (ninS (Ne.symm ne_wl_16_cc1_175) (ninS p175_3 (ninS p175_4 nin0))))).keep kc262 (ninS (Ne.symm ne_kl_16_cc1_175) (ninS (Ne.symm ne_wl_16_cc1_175) (ninS p175_3 (ninS p175_4 nin0))))).other W274 (Ne.symm ne_b1_cc1_175)).other W275 (Ne.symm ne_b1_cc1_175)).other W277 (Ne.symm ne_b4_cc1_175))
        refine g_len X288 hx hZ eh288 f290 (hb hby at_204) rfl ?_
        refine g_iconst X288 hx (r := (2 : Int32)) (hb hby at_205) rfl rfl ?_
        refine g_icmpN X288 hx (hb hby at_206) rfl (XT.ii_ne_f (by decide : (2 : Int32) = (2 : Int32))) ?_
        refine g_aload X288 hx (hb hby at_209) rfl rfl rfl ?_
        refine g_iconst X288 hx (r := (0 : Int32)) (hb hby at_211) rfl rfl ?_
        refine g_baload X288 hx hZ eh288 f290 (v := (.int (p0.toInt8.toInt32))) ⟨by decide, by decide⟩ rfl (hb hby at_212) rfl ?_
        refine g_iload X288 hx (hb hby at_213) rfl rfl ?_
        refine g_icmpN X288 hx (hb hby at_215) rfl (XT.ii_ne_f rfl) ?_
        refine g_aload X288 hx (hb hby at_218) rfl rfl rfl ?_
        refine g_iconst X288 hx (r := (1 : Int32)) (hb hby at_220) rfl rfl ?_
        refine g_baload X288 hx hZ eh288 f290 (v := (.int (((p0.toUInt32 >>> ((8 : Int32) &&& 31).toUInt32).toInt32).toInt8.toInt32))) ⟨by decide, by decide⟩ rfl (hb hby at_221) rfl ?_
        refine g_iload X288 hx (hb hby at_222) rfl rfl ?_
        refine g_icmpN X288 hx (hb hby at_224) rfl (XT.ii_ne_f rfl) ?_
        refine g_aload X288 hx (hb hby at_227) rfl rfl rfl ?_
        have f291 : Arv Z h277 cc1_253 ka4 .byte (1 : Int32) [(.int (p1.toInt8.toInt32))] (.int (0 : Int32)) := ((((pv253_4.keep kc262 (ninS (Ne.symm ne_kl_16_cc1_253) (ninS (Ne.symm ne_wl_16_cc1_253) (ninS (Ne.symm ne_ar1_175_cc1_253) (ninS (Ne.symm ne_ar2_175_cc1_253) nin0))))).other W274 (Ne.symm ne_b1_cc1_253)).other W275 (Ne.symm ne_b1_cc1_253)).other W277 (Ne.symm ne_b4_cc1_253))
        refine g_len X288 hx hZ eh288 f291 (hb hby at_229) rfl ?_
        refine g_iconst X288 hx (r := (1 : Int32)) (hb hby at_230) rfl rfl ?_
        refine g_icmpN X288 hx (hb hby at_231) rfl (XT.ii_ne_f (by decide : (1 : Int32) = (1 : Int32))) ?_
        refine g_aload X288 hx (hb hby at_234) rfl rfl rfl ?_
        refine g_iconst X288 hx (r := (0 : Int32)) (hb hby at_236) rfl rfl ?_
        refine g_baload X288 hx hZ eh288 f291 (v := (.int (p1.toInt8.toInt32))) ⟨by decide, by decide⟩ rfl (hb hby at_237) rfl ?_
        refine g_iload X288 hx (hb hby at_238) rfl rfl ?_
        refine g_icmpN X288 hx (hb hby at_240) rfl (XT.ii_ne_f rfl) ?_
        refine g_aload X288 hx (hb hby at_243) rfl rfl rfl ?_
        have f292 : Arv Z h277 cc1_262 ka6 .byte (0 : Int32) [] (.int (0 : Int32)) := (((pv262_6.other W274 (Ne.symm ne_b1_cc1_262)).other W275 (Ne.symm ne_b1_cc1_262)).other W277 (Ne.symm ne_b4_cc1_262))
        refine g_len X288 hx hZ eh288 f292 (hb hby at_245) rfl ?_
        refine g_ifN X288 hx (hb hby at_246) rfl (XT.i0_ne_f (by decide : (0 : Int32) = (0 : Int32))) ?_
        refine g_iconst X288 hx (r := (1 : Int32)) (hb hby at_249) rfl rfl ?_
        refine g_goto X288 hx (q := 254) (hb hby at_250) (by decide) (by decide) ?_
        exact g_retN X288 hx (t := .boolean) (r := (1 : Int32)) hret (by simp) hlk (hb hby at_254) rfl (by decide) (by decide) (by rw [eh288]; exact ⟨rfl, N288⟩)
      · skip
        refine g_ifN X253 hx (hb hby at_117) rfl (XT.i0_eq_f hc117) ?_
        refine g_iconst X253 hx (r := (1 : Int32)) (hb hby at_120) rfl rfl ?_
        refine g_goto X253 hx (q := 125) (hb hby at_121) (by decide) (by decide) ?_
        have f294 : Fld Z T253.heap b12 "com/example/covering/covering/store/Batch" "keys" "Ljava/util/List;" (.ref kl_16) := (f254.keep kc253 (ninS ne_b12_kl_16 (ninS ne_b12_wl_16 (ninS ne_b12_ar1_175 (ninS ne_b12_ar2_175 nin0)))))
        have f295 : Fld Z T253.heap b12 "com/example/covering/covering/store/Batch" "values" "Ljava/util/List;" (.ref wl_16) := (f255.keep kc253 (ninS ne_b12_kl_16 (ninS ne_b12_wl_16 (ninS ne_b12_ar1_175 (ninS ne_b12_ar2_175 nin0)))))
        have f296 : Exa Z T253.heap b12 "com/example/covering/covering/store/Batch" := (f256.keep kc253)
        have f297 : Exa Z T253.heap b6 "[B" := ((((((A6.ext E8).wr W11).ext E12).keep kc16).keep kc175).keep kc253)
        have f298 : Arv Z T253.heap b6 ka6 .byte (0 : Int32) [] (.int (0 : Int32)) := (f260.keep kc253 (ninS ne_b6_kl_16 (ninS ne_b6_wl_16 (ninS ne_b6_ar1_175 (ninS ne_b6_ar2_175 nin0)))))
        refine g_static X253 hx hZ hown (hw _ (List.mem_of_getElem? (i := 38) rfl)) (hw _ (List.mem_of_getElem? (i := 39) rfl)) (hw _ (List.mem_of_getElem? (i := 40) rfl)) (hw _ (List.mem_of_getElem? (i := 41) rfl)) (by decide) (rm_ladd0N l Z a0 hw b12 b6 ka6 (0 : Int32) [] kl_16 wl_16 (2 : Int32) (2 : Int32) ar1_175 kr1_175 ar2_175 kr2_175 (2 : Int32) [(.ref cc1_175), (.ref cc1_253), .null, .null, .null, .null, .null, .null, .null, .null] [.null, .null, .null, .null, .null, .null, .null, .null, .null, .null] b8 T253.heap n0 Z253 f294 f295 f296 p253_1 p253_2 g_kl_16 g_wl_16 p16_2 ne_b12_kl_16 ne_b12_wl_16 f297 f298 (by first | decide | assumption | rfl | (intro _; rfl)) p253_5 pv253_6 pv253_7 p253_8 pv253_9 pv253_10 pv253_11 pv253_12 p175_16 p175_17 g_ar1_175 g_ar2_175 p175_5 ne_b12_ar1_175 ne_b12_ar2_175 ne_kl_16_ar1_175 ne_kl_16_ar2_175 ne_wl_16_ar1_175 ne_wl_16_ar2_175 (by first | decide | assumption | rfl | (intro _; rfl)) (by first | decide | assumption | rfl | (intro _; rfl)) (by first | decide | assumption | rfl | (intro _; rfl)) (by first | decide | assumption | rfl | (intro _; rfl))) (by rw [hml]; rfl) rfl [(.ref b12), (.ref b6), (.ref b8), (.int (1 : Int32))] rfl rfl (W := 0) (Nat.le_of_eq rfl) (by decide) (by decide) (by decide) (by decide) (lenOf pd_10 rfl) (hb hby at_125) rfl fun v293 T293 L293 X293 hQ293 => ?_
        obtain ⟨cc1_293, rfl, Nq293, kc293, p293_0, p293_1, p293_2, p293_3, p293_4, p293_5, p293_6, p293_7, p293_8, p293_9, p293_10, p293_11, p293_12⟩ := hQ293
        have N293 := Fr.app N253 Nq293
        have f299 : Arv Z T253.heap b1 ka1 .byte (2 : Int32) [(.int (p0.toInt8.toInt32)), (.int (((p0.toUInt32 >>> ((8 : Int32) &&& 31).toUInt32).toInt32).toInt8.toInt32))] (.int (0 : Int32)) := (f259.keep kc253 (ninS ne_b1_kl_16 (ninS ne_b1_wl_16 (ninS ne_b1_ar1_175 (ninS ne_b1_ar2_175 nin0)))))
        have f300 : Arv Z T253.heap b4 ka4 .byte (1 : Int32) [(.int (p1.toInt8.toInt32))] (.int (0 : Int32)) := (f258.keep kc253 (ninS ne_b4_kl_16 (ninS ne_b4_wl_16 (ninS ne_b4_ar1_175 (ninS ne_b4_ar2_175 nin0)))))
        have f301 : Arv Z T253.heap b8 ka8 .byte (1 : Int32) [(.int (p2.toInt8.toInt32))] (.int (0 : Int32)) := (f261.keep kc253 (ninS ne_b8_kl_16 (ninS ne_b8_wl_16 (ninS ne_b8_ar1_175 (ninS ne_b8_ar2_175 nin0)))))
        have f302 : Exa Z T253.heap cc1_175 "[B" := (p175_8.keep kc253)
        have ne_ar1_175_cc1_293 : ar1_175 ≠ cc1_293 := own_neK pv253_11.lt p293_0
        have ne_ar2_175_cc1_293 : ar2_175 ≠ cc1_293 := own_neK pv253_12.lt p293_0
        have ne_b1_cc1_293 : b1 ≠ cc1_293 := own_neK f299.lt p293_0
        have ne_b12_cc1_293 : b12 ≠ cc1_293 := own_neK f296.lt p293_0
        have ne_b4_cc1_293 : b4 ≠ cc1_293 := own_neK f300.lt p293_0
        have ne_b6_cc1_293 : b6 ≠ cc1_293 := own_neK f298.lt p293_0
        have ne_b8_cc1_293 : b8 ≠ cc1_293 := own_neK f301.lt p293_0
        have ne_cc1_175_cc1_293 : cc1_175 ≠ cc1_293 := own_neK f302.lt p293_0
        have ne_cc1_253_cc1_293 : cc1_253 ≠ cc1_293 := own_neK p253_3.lt p293_0
        have ne_kl_16_cc1_293 : kl_16 ≠ cc1_293 := own_neK p253_1.lt p293_0
        have ne_wl_16_cc1_293 : wl_16 ≠ cc1_293 := own_neK p253_2.lt p293_0
        have g_cc1_293 : n0 ≤ cc1_293 := Nat.le_trans Z253 p293_0
        have Z293 : n0 ≤ T293.heap.size := Nat.le_trans Z253 kc293.1
        have pv293_4 : Arv Z T293.heap cc1_293 ka6 .byte (0 : Int32) [] (.int (0 : Int32)) := p293_4
        have pv293_6 : Fld Z T293.heap kl_16 "java/util/ArrayList" "size" "I" (.int (3 : Int32)) := p293_6
        have pv293_7 : Fld Z T293.heap kl_16 "java/util/AbstractList" "modCount" "I" (.int (3 : Int32)) := p293_7
        have pv293_9 : Fld Z T293.heap wl_16 "java/util/ArrayList" "size" "I" (.int (3 : Int32)) := p293_9
        have pv293_10 : Fld Z T293.heap wl_16 "java/util/AbstractList" "modCount" "I" (.int (3 : Int32)) := p293_10
        have pv293_11 : Arv Z T293.heap ar1_175 kr1_175 (.object "java/lang/Object") (10 : Int32) [(.ref cc1_175), (.ref cc1_253), (.ref cc1_293), .null, .null, .null, .null, .null, .null, .null] .null := p293_11
        have pv293_12 : Arv Z T293.heap ar2_175 kr2_175 (.object "java/lang/Object") (10 : Int32) [.null, .null, .null, .null, .null, .null, .null, .null, .null, .null] .null := p293_12
        show Ga _ _ _ _ _ _ _ _ _ _ _ []
        refine g_aload X293 hx (hb hby at_128) rfl rfl rfl ?_
        refine g_iconst X293 hx (r := (0 : Int32)) (hb hby at_130) rfl rfl ?_
        refine g_aload X293 hx (hb hby at_131) rfl rfl rfl ?_
        refine g_iconst X293 hx (r := (0 : Int32)) (hb hby at_133) rfl rfl ?_
        have f303 : Arv Z T293.heap b1 ka1 .byte (2 : Int32) [(.int (p0.toInt8.toInt32)), (.int (((p0.toUInt32 >>> ((8 : Int32) &&& 31).toUInt32).toInt32).toInt8.toInt32))] (.int (0 : Int32)) := (f299.keep kc293 (ninS ne_b1_kl_16 (ninS ne_b1_wl_16 (ninS ne_b1_ar1_175 (ninS ne_b1_ar2_175 nin0)))))
        refine g_baload X293 hx hZ rfl f303 (v := (.int (p0.toInt8.toInt32))) ⟨by decide, by decide⟩ rfl (hb hby at_134) rfl ?_
        refine g_iconst X293 hx (r := (-1 : Int32)) (hb hby at_135) rfl rfl ?_
        refine g_ixor X293 hx (hb hby at_136) rfl rfl ?_
        refine g_i2b X293 hx (hb hby at_137) rfl rfl ?_
        refine g_bastore X293 hx hZ rfl f303 ⟨by decide, by decide⟩ (Nat.le_of_ble_eq_true rfl) (hb hby at_138) rfl fun T304 h304 X304 e304 W304 V304 => ?_
        rw [own_nar, own_bb] at V304
        have Vn304 : Arv Z h304 b1 ka1 .byte (2 : Int32) [(.int (((p0.toInt8.toInt32) ^^^ (-1 : Int32)).toInt8.toInt32)), (.int (((p0.toUInt32 >>> ((8 : Int32) &&& 31).toUInt32).toInt32).toInt8.toInt32))] (.int (0 : Int32)) := V304
        have N304 := Fr.snoc X304 N293 g_b1
        have Z304 : n0 ≤ h304.size := by rw [W304.size]; exact Z293
        refine g_aload X304 hx (hb hby at_139) rfl rfl rfl ?_
        refine g_iconst X304 hx (r := (1 : Int32)) (hb hby at_141) rfl rfl ?_
        refine g_aload X304 hx (hb hby at_142) rfl rfl rfl ?_
        refine g_iconst X304 hx (r := (1 : Int32)) (hb hby at_144) rfl rfl ?_
        refine g_baload X304 hx hZ e304 Vn304 (v := (.int (((p0.toUInt32 >>> ((8 : Int32) &&& 31).toUInt32).toInt32).toInt8.toInt32))) ⟨by decide, by decide⟩ rfl (hb hby at_145) rfl ?_
        refine g_iconst X304 hx (r := (-1 : Int32)) (hb hby at_146) rfl rfl ?_
        refine g_ixor X304 hx (hb hby at_147) rfl rfl ?_
        refine g_i2b X304 hx (hb hby at_148) rfl rfl ?_
        refine g_bastore X304 hx hZ e304 Vn304 ⟨by decide, by decide⟩ (Nat.le_of_ble_eq_true rfl) (hb hby at_149) rfl fun T305 h305 X305 e305 W305 V305 => ?_
        rw [own_nar, own_bb] at V305
        have Vn305 : Arv Z h305 b1 ka1 .byte (2 : Int32) [(.int (((p0.toInt8.toInt32) ^^^ (-1 : Int32)).toInt8.toInt32)), (.int (((((p0.toUInt32 >>> ((8 : Int32) &&& 31).toUInt32).toInt32).toInt8.toInt32) ^^^ (-1 : Int32)).toInt8.toInt32))] (.int (0 : Int32)) := V305
        have N305 := Fr.snoc X305 N304 g_b1
        have Z305 : n0 ≤ h305.size := by rw [W305.size]; exact Z304
        refine g_aload X305 hx (hb hby at_150) rfl rfl rfl ?_
        refine g_iconst X305 hx (r := (0 : Int32)) (hb hby at_152) rfl rfl ?_
        refine g_aload X305 hx (hb hby at_153) rfl rfl rfl ?_
        refine g_iconst X305 hx (r := (0 : Int32)) (hb hby at_155) rfl rfl ?_
        have f306 : Arv Z h305 b4 ka4 .byte (1 : Int32) [(.int (p1.toInt8.toInt32))] (.int (0 : Int32)) := (((f300.keep kc293 (ninS ne_b4_kl_16 (ninS ne_b4_wl_16 (ninS ne_b4_ar1_175 (ninS ne_b4_ar2_175 nin0))))).other W304 (Ne.symm ne_b1_b4)).other W305 (Ne.symm ne_b1_b4))
        refine g_baload X305 hx hZ e305 f306 (v := (.int (p1.toInt8.toInt32))) ⟨by decide, by decide⟩ rfl (hb hby at_156) rfl ?_
        refine g_iconst X305 hx (r := (-1 : Int32)) (hb hby at_157) rfl rfl ?_
        refine g_ixor X305 hx (hb hby at_158) rfl rfl ?_
        refine g_i2b X305 hx (hb hby at_159) rfl rfl ?_
        refine g_bastore X305 hx hZ e305 f306 ⟨by decide, by decide⟩ (Nat.le_of_ble_eq_true rfl) (hb hby at_160) rfl fun T307 h307 X307 e307 W307 V307 => ?_
        rw [own_nar, own_bb] at V307
        have Vn307 : Arv Z h307 b4 ka4 .byte (1 : Int32) [(.int (((p1.toInt8.toInt32) ^^^ (-1 : Int32)).toInt8.toInt32))] (.int (0 : Int32)) := V307
        have N307 := Fr.snoc X307 N305 g_b4
        have Z307 : n0 ≤ h307.size := by rw [W307.size]; exact Z305
        refine g_aload X307 hx (hb hby at_161) rfl rfl rfl ?_
        refine g_iconst X307 hx (r := (0 : Int32)) (hb hby at_163) rfl rfl ?_
        have f309 : Fld Z h307 b12 "com/example/covering/covering/store/Batch" "keys" "Ljava/util/List;" (.ref kl_16) := ((((f294.keep kc293 (ninS ne_b12_kl_16 (ninS ne_b12_wl_16 (ninS ne_b12_ar1_175 (ninS ne_b12_ar2_175 nin0))))).other W304 (Or.inl (Ne.symm ne_b1_b12))).other W305 (Or.inl (Ne.symm ne_b1_b12))).other W307 (Or.inl (Ne.symm ne_b4_b12)))
        have f310 : Fld Z h307 kl_16 "java/util/ArrayList" "size" "I" (.int (3 : Int32)) := (((pv293_6.other W304 (Or.inl (Ne.symm ne_b1_kl_16))).other W305 (Or.inl (Ne.symm ne_b1_kl_16))).other W307 (Or.inl (Ne.symm ne_b4_kl_16)))
        have f311 : Fld Z h307 kl_16 "java/util/ArrayList" "elementData" "[Ljava/lang/Object;" (.ref ar1_175) := (((p293_5.other W304 (Or.inl (Ne.symm ne_b1_kl_16))).other W305 (Or.inl (Ne.symm ne_b1_kl_16))).other W307 (Or.inl (Ne.symm ne_b4_kl_16)))
        have f312 : Arv Z h307 ar1_175 kr1_175 (.object "java/lang/Object") (10 : Int32) [(.ref cc1_175), (.ref cc1_253), (.ref cc1_293), .null, .null, .null, .null, .null, .null, .null] .null := (((pv293_11.other W304 (Ne.symm ne_b1_ar1_175)).other W305 (Ne.symm ne_b1_ar1_175)).other W307 (Ne.symm ne_b4_ar1_175))
        have f313 : Exa Z h307 kl_16 "java/util/ArrayList" := (((p293_1.wr W304).wr W305).wr W307)
        have f314 : Exa Z h307 cc1_175 "[B" := ((((f302.keep kc293).wr W304).wr W305).wr W307)
        have f315 : Exa Z h307 b12 "com/example/covering/covering/store/Batch" := ((((f296.keep kc293).wr W304).wr W305).wr W307)
        refine g_virtual X307 hx hZ hown (hw _ (List.mem_of_getElem? (i := 96) rfl)) (hw _ (List.mem_of_getElem? (i := 97) rfl)) (notFace_of_selects (args := #[]) (mvT hZ (hw _ (List.mem_of_getElem? (i := 99) rfl)))) (hw _ (List.mem_of_getElem? (i := 99) rfl)) (hw _ (List.mem_of_getElem? (i := 98) rfl)) (hw _ (List.mem_of_getElem? (i := 3) rfl)) (hw _ (List.mem_of_getElem? (i := 100) rfl)) (by decide) (a := b12) f315 (rm_key l Z a0 hw b12 kl_16 ar1_175 kr1_175 (3 : Int32) [(.ref cc1_175), (.ref cc1_253), (.ref cc1_293), .null, .null, .null, .null, .null, .null, .null] (0 : Int32) cc1_175 h307 n0 Z307 f309 f310 f311 f312 f313 (by first | decide | assumption | rfl | (intro _; rfl)) (by first | decide | assumption | rfl | (intro _; rfl)) (by first | decide | assumption | rfl | (intro _; rfl)) (by first | decide | assumption | rfl | (intro _; rfl)) (Ins.self f314)) (by rw [hml]; rfl) e307 [(.int (0 : Int32))] rfl rfl (W := 0) (Nat.le_of_eq rfl) (by decide) (by decide) (by decide) (by decide) (lenOf pd_11 rfl) (hb hby at_164) rfl fun v308 T308 L308 X308 hQ308 => ?_
        obtain ⟨rfl, Nq308, eh308⟩ := hQ308
        have N308 := Fr.app N307 Nq308
        show Ga _ _ _ _ _ _ _ _ _ _ _ [(.ref cc1_175)]
        refine g_astore X308 hx (Ls' := #[.val (.int p0), .val (.int p1), .val (.int p2), .val (.int p3), .val (.int (p0.toInt8.toInt32)), .val (.int (((p0.toUInt32 >>> ((8 : Int32) &&& 31).toUInt32).toInt32).toInt8.toInt32)), .val (.int (p1.toInt8.toInt32)), .val (.ref b1), .val (.ref b4), .val (.ref b6), .val (.ref b8), .val (.ref b12), .val (.ref cc1_175), .unset, .unset]) (hb hby at_167) rfl rfl rfl ?_
        refine g_aload X308 hx (hb hby at_169) rfl rfl rfl ?_
        refine g_iconst X308 hx (r := (1 : Int32)) (hb hby at_171) rfl rfl ?_
        have f317 : Exa Z h307 cc1_253 "[B" := ((((p253_3.keep kc293).wr W304).wr W305).wr W307)
        refine g_virtual X308 hx hZ hown (hw _ (List.mem_of_getElem? (i := 96) rfl)) (hw _ (List.mem_of_getElem? (i := 97) rfl)) (notFace_of_selects (args := #[]) (mvT hZ (hw _ (List.mem_of_getElem? (i := 99) rfl)))) (hw _ (List.mem_of_getElem? (i := 99) rfl)) (hw _ (List.mem_of_getElem? (i := 98) rfl)) (hw _ (List.mem_of_getElem? (i := 3) rfl)) (hw _ (List.mem_of_getElem? (i := 100) rfl)) (by decide) (a := b12) f315 (rm_key l Z a0 hw b12 kl_16 ar1_175 kr1_175 (3 : Int32) [(.ref cc1_175), (.ref cc1_253), (.ref cc1_293), .null, .null, .null, .null, .null, .null, .null] (1 : Int32) cc1_253 h307 n0 Z307 f309 f310 f311 f312 f313 (by first | decide | assumption | rfl | (intro _; rfl)) (by first | decide | assumption | rfl | (intro _; rfl)) (by first | decide | assumption | rfl | (intro _; rfl)) (by first | decide | assumption | rfl | (intro _; rfl)) (Ins.self f317)) (by rw [hml]; rfl) eh308 [(.int (1 : Int32))] rfl rfl (W := 0) (Nat.le_of_eq rfl) (by decide) (by decide) (by decide) (by decide) (lenOf pd_11 rfl) (hb hby at_172) rfl fun v316 T316 L316 X316 hQ316 => ?_
        obtain ⟨rfl, Nq316, eh316⟩ := hQ316
        have N316 := Fr.app N308 Nq316
        show Ga _ _ _ _ _ _ _ _ _ _ _ [(.ref cc1_253)]
        refine g_astore X316 hx (Ls' := #[.val (.int p0), .val (.int p1), .val (.int p2), .val (.int p3), .val (.int (p0.toInt8.toInt32)), .val (.int (((p0.toUInt32 >>> ((8 : Int32) &&& 31).toUInt32).toInt32).toInt8.toInt32)), .val (.int (p1.toInt8.toInt32)), .val (.ref b1), .val (.ref b4), .val (.ref b6), .val (.ref b8), .val (.ref b12), .val (.ref cc1_175), .val (.ref cc1_253), .unset]) (hb hby at_175) rfl rfl rfl ?_
        refine g_aload X316 hx (hb hby at_177) rfl rfl rfl ?_
        refine g_iconst X316 hx (r := (2 : Int32)) (hb hby at_179) rfl rfl ?_
        have f319 : Exa Z h307 cc1_293 "[B" := (((p293_3.wr W304).wr W305).wr W307)
        refine g_virtual X316 hx hZ hown (hw _ (List.mem_of_getElem? (i := 96) rfl)) (hw _ (List.mem_of_getElem? (i := 97) rfl)) (notFace_of_selects (args := #[]) (mvT hZ (hw _ (List.mem_of_getElem? (i := 99) rfl)))) (hw _ (List.mem_of_getElem? (i := 99) rfl)) (hw _ (List.mem_of_getElem? (i := 98) rfl)) (hw _ (List.mem_of_getElem? (i := 3) rfl)) (hw _ (List.mem_of_getElem? (i := 100) rfl)) (by decide) (a := b12) f315 (rm_key l Z a0 hw b12 kl_16 ar1_175 kr1_175 (3 : Int32) [(.ref cc1_175), (.ref cc1_253), (.ref cc1_293), .null, .null, .null, .null, .null, .null, .null] (2 : Int32) cc1_293 h307 n0 Z307 f309 f310 f311 f312 f313 (by first | decide | assumption | rfl | (intro _; rfl)) (by first | decide | assumption | rfl | (intro _; rfl)) (by first | decide | assumption | rfl | (intro _; rfl)) (by first | decide | assumption | rfl | (intro _; rfl)) (Ins.self f319)) (by rw [hml]; rfl) eh316 [(.int (2 : Int32))] rfl rfl (W := 0) (Nat.le_of_eq rfl) (by decide) (by decide) (by decide) (by decide) (lenOf pd_11 rfl) (hb hby at_180) rfl fun v318 T318 L318 X318 hQ318 => ?_
        obtain ⟨rfl, Nq318, eh318⟩ := hQ318
        have N318 := Fr.app N316 Nq318
        show Ga _ _ _ _ _ _ _ _ _ _ _ [(.ref cc1_293)]
        refine g_astore X318 hx (Ls' := #[.val (.int p0), .val (.int p1), .val (.int p2), .val (.int p3), .val (.int (p0.toInt8.toInt32)), .val (.int (((p0.toUInt32 >>> ((8 : Int32) &&& 31).toUInt32).toInt32).toInt8.toInt32)), .val (.int (p1.toInt8.toInt32)), .val (.ref b1), .val (.ref b4), .val (.ref b6), .val (.ref b8), .val (.ref b12), .val (.ref cc1_175), .val (.ref cc1_253), .val (.ref cc1_293)]) (hb hby at_183) rfl rfl rfl ?_
        refine g_aload X318 hx (hb hby at_185) rfl rfl rfl ?_
        refine g_ifnullN X318 hx (hb hby at_187) rfl  ?_
        refine g_aload X318 hx (hb hby at_190) rfl rfl rfl ?_
        refine g_ifnullN X318 hx (hb hby at_192) rfl  ?_
        refine g_aload X318 hx (hb hby at_195) rfl rfl rfl ?_
        refine g_ifnonnullY X318 hx (q := 202) (hb hby at_197) (by decide) (by decide) ?_
        refine g_aload X318 hx (hb hby at_202) rfl rfl rfl ?_
        have f320 : Arv Z h307 cc1_175 ka1 .byte (2 : Int32) [(.int (p0.toInt8.toInt32)), (.int (((p0.toUInt32 >>> ((8 : Int32) &&& 31).toUInt32).toInt32).toInt8.toInt32))] (.int (0 : Int32)) := (((((pv175_9.keep kc253 (ninS (Ne.symm ne_kl_16_cc1_175) (ninS (Ne.symm ne_wl_16_cc1_175) (ninS p175_3 (ninS p175_4 nin0))))).keep kc293 (ninS (Ne.symm ne_kl_16_cc1_175) (ninS (Ne.symm ne_wl_16_cc1_175) (ninS p175_3 (ninS p175_4 nin0))))).other W304 (Ne.symm ne_b1_cc1_175)).other W305 (Ne.symm ne_b1_cc1_175)).other W307 (Ne.symm ne_b4_cc1_175))
        refine g_len X318 hx hZ eh318 f320 (hb hby at_204) rfl ?_
        refine g_iconst X318 hx (r := (2 : Int32)) (hb hby at_205) rfl rfl ?_
        refine g_icmpN X318 hx (hb hby at_206) rfl (XT.ii_ne_f (by decide : (2 : Int32) = (2 : Int32))) ?_
        refine g_aload X318 hx (hb hby at_209) rfl rfl rfl ?_
        refine g_iconst X318 hx (r := (0 : Int32)) (hb hby at_211) rfl rfl ?_
        refine g_baload X318 hx hZ eh318 f320 (v := (.int (p0.toInt8.toInt32))) ⟨by decide, by decide⟩ rfl (hb hby at_212) rfl ?_
        refine g_iload X318 hx (hb hby at_213) rfl rfl ?_
        refine g_icmpN X318 hx (hb hby at_215) rfl (XT.ii_ne_f rfl) ?_
        refine g_aload X318 hx (hb hby at_218) rfl rfl rfl ?_
        refine g_iconst X318 hx (r := (1 : Int32)) (hb hby at_220) rfl rfl ?_
        refine g_baload X318 hx hZ eh318 f320 (v := (.int (((p0.toUInt32 >>> ((8 : Int32) &&& 31).toUInt32).toInt32).toInt8.toInt32))) ⟨by decide, by decide⟩ rfl (hb hby at_221) rfl ?_
        refine g_iload X318 hx (hb hby at_222) rfl rfl ?_
        refine g_icmpN X318 hx (hb hby at_224) rfl (XT.ii_ne_f rfl) ?_
        refine g_aload X318 hx (hb hby at_227) rfl rfl rfl ?_
        have f321 : Arv Z h307 cc1_253 ka4 .byte (1 : Int32) [(.int (p1.toInt8.toInt32))] (.int (0 : Int32)) := ((((pv253_4.keep kc293 (ninS (Ne.symm ne_kl_16_cc1_253) (ninS (Ne.symm ne_wl_16_cc1_253) (ninS (Ne.symm ne_ar1_175_cc1_253) (ninS (Ne.symm ne_ar2_175_cc1_253) nin0))))).other W304 (Ne.symm ne_b1_cc1_253)).other W305 (Ne.symm ne_b1_cc1_253)).other W307 (Ne.symm ne_b4_cc1_253))
        refine g_len X318 hx hZ eh318 f321 (hb hby at_229) rfl ?_
        refine g_iconst X318 hx (r := (1 : Int32)) (hb hby at_230) rfl rfl ?_
        refine g_icmpN X318 hx (hb hby at_231) rfl (XT.ii_ne_f (by decide : (1 : Int32) = (1 : Int32))) ?_
        refine g_aload X318 hx (hb hby at_234) rfl rfl rfl ?_
        refine g_iconst X318 hx (r := (0 : Int32)) (hb hby at_236) rfl rfl ?_
        refine g_baload X318 hx hZ eh318 f321 (v := (.int (p1.toInt8.toInt32))) ⟨by decide, by decide⟩ rfl (hb hby at_237) rfl ?_
        refine g_iload X318 hx (hb hby at_238) rfl rfl ?_
        refine g_icmpN X318 hx (hb hby at_240) rfl (XT.ii_ne_f rfl) ?_
        refine g_aload X318 hx (hb hby at_243) rfl rfl rfl ?_
        have f322 : Arv Z h307 cc1_293 ka6 .byte (0 : Int32) [] (.int (0 : Int32)) := (((pv293_4.other W304 (Ne.symm ne_b1_cc1_293)).other W305 (Ne.symm ne_b1_cc1_293)).other W307 (Ne.symm ne_b4_cc1_293))
        refine g_len X318 hx hZ eh318 f322 (hb hby at_245) rfl ?_
        refine g_ifN X318 hx (hb hby at_246) rfl (XT.i0_ne_f (by decide : (0 : Int32) = (0 : Int32))) ?_
        refine g_iconst X318 hx (r := (1 : Int32)) (hb hby at_249) rfl rfl ?_
        refine g_goto X318 hx (q := 254) (hb hby at_250) (by decide) (by decide) ?_
        exact g_retN X318 hx (t := .boolean) (r := (1 : Int32)) hret (by simp) hlk (hb hby at_254) rfl (by decide) (by decide) (by rw [eh318]; exact ⟨rfl, N318⟩)
set_option maxRecDepth 65536 in
set_option maxHeartbeats 40000000 in
theorem comes_1 {Post : Tables → Env → Array Value → State → Outcome → State → Prop} (hpost : ∀ tb e args s v u, (limb_1_1.after args s (.returned v) u = true ∧ limb_1_2.after args s (.returned v) u = true ∧ True) → FrameEnd s (.returned v) u (Jvm.fieldLocs frame_1_writes args s ++ Jvm.arrayLocs frame_1_arrays args s ++ Jvm.staticLocs frame_1_statics s) 40 192 → Post tb e args s (.returned v) u) :
    ArmFor flags0 classFile x code maxLocals ret World_1 tables_1 room_1 Calls_1 rest_1 Pre_1 Post := by
  intro l hfl _ _ p e ha hc hk s m args below hf hA hF happ hP
  obtain ⟨hcalls, hrest, hpre⟩ := hP
  obtain ⟨-, -, -, hnamed, -, -, -, hat⟩ := (Spec.applies_iff hf).mp happ
  obtain ⟨hg, hn⟩ := and_e (Cond.before_iff.mp (show (Jvm.Cond.and given_1 narrow_1).before args s = true from hpre))
  obtain ⟨hcn, hg1⟩ := and_e hg
  obtain ⟨k1, hg2⟩ := and_e hg1
  obtain ⟨k2, hg3⟩ := and_e hg2
  obtain ⟨k3, hg4⟩ := and_e hg3
  have k4 := hg4
  obtain ⟨w0, w1, w2, w3, rfl⟩ : ∃ w0 w1 w2 w3 : Value, args = #[w0, w1, w2, w3] := by
    have hs : args.size = 4 := by simpa [Cond.value, given_1] using hcn
    obtain ⟨L⟩ := args
    match L, hs with
    | [w0, w1, w2, w3], _ => exact ⟨w0, w1, w2, w3, rfl⟩
  have hw := fun d (hd : d ∈ tables_1) => atoms_spec (ws := Jvm.Cond.code x code maxLocals ret :: tables_1) hat d (List.mem_cons_of_mem _ hd)
  have hfit : Fit s := fun {y c} hc i hi => by
    obtain ⟨ha, rfl⟩ := Array.getElem?_eq_some_iff.mp hc
    have q := List.all_eq_true.mp ((Array.all_eq_true_iff_forall_mem.mp hF) _ (Array.getElem_mem ha)) i (List.mem_range.mpr hi)
    simpa [Array.getElem?_eq_getElem hi] using q
  obtain ⟨hsets, hown0⟩ := atoms_of _ (rest_1_c_eq ▸ (show rest_1_c.before _ s = true from hrest))
  have hr0 := Cond.before_iff.mp hown0
  obtain ⟨i0, ei0⟩ := is_v k1
  obtain rfl : w0 = (.int i0) := Option.some.inj ei0
  obtain ⟨i1, ei1⟩ := is_v k2
  obtain rfl : w1 = (.int i1) := Option.some.inj ei1
  obtain ⟨i2, ei2⟩ := is_v k3
  obtain rfl : w2 = (.int i2) := Option.some.inj ei2
  obtain ⟨i3, ei3⟩ := is_v k4
  obtain rfl : w3 = (.int i3) := Option.some.inj ei3
  obtain ⟨d0, ed0⟩ := arr_v (Cond.before_iff.mp (hsets _ (List.mem_of_getElem? (i := 6) rfl)))
  have S0 := Sta.start ed0 (Or.inr ⟨hw _ (List.mem_of_getElem? (i := 12) rfl), hsets _ (List.mem_of_getElem? (i := 2) rfl)⟩)
  obtain ⟨cd0, Ad0⟩ := Arr.start ed0 (Cond.before_iff.mp (hsets _ (List.mem_of_getElem? (i := 6) rfl)))
  have V0 := own_empty hfit Ad0 ed0 (own_eqi (Cond.before_iff.mp (hsets _ (List.mem_of_getElem? (i := 8) rfl))))
  obtain ⟨n, o, h1, h2, h3, _, L, rfl, ⟨rfl, N⟩, hq⟩ := rm_law l s _ hw tables_1 i0 i1 i2 i3 d0 cd0.cls s.heap s.heap.size (Nat.le_refl _) (Old.start s) S0 V0 p e ha hc hk s m _ below hf ((Spec.applies_iff_loose hf).mp happ).1 ⟨rfl, State.Warmed39.refl s, rfl⟩ trivial
  refine ⟨n, _, h1, h2, h3, hpost _ _ _ _ _ _ ⟨Cond.after_iff.mpr rfl, Cond.after_iff.mpr (eq_i res_at (Term.int_eval (1)) rfl), trivial⟩ ⟨hq.1, hq.2.1, (hq.2.2.sift fun y hy => Or.inr (N y hy)).mono (by decide) (by decide)⟩⟩
theorem main_1_1 : Claimed_1_1 := comes_1 fun _ _ _ _ _ _ h hF => ⟨h.1, hF⟩
theorem main_1_2 : Claimed_1_2 := comes_1 fun _ _ _ _ _ _ h hF => ⟨h.2.1, hF⟩
end Jvm.Pilot.@@N@@
namespace Jvm.Pilot.@@N@@
open Jvm Jvm.ClassFile Sem Op Lib Jvm.Free Jvm.Stand Jvm.Pilot.@@N@@.Jvm.D
/-! MADE BY PROGRAM (witnessworld.py) out of the Statement's table words and the real class files: 21 classes; the members and pool entries that the words name. The judged class is class 1, her method 2. -/
namespace start1
open Jvm.ClassFile
def u (s : String) : CpInfo := .utf8 (stringToUtf16 s)
/-- a pool by its gaps: so many unusable entries, then the entry; so many at the end -/
def gap : Nat → List CpInfo → List CpInfo
  | 0, r => r
  | n + 1, r => .unusable :: gap n r
def poolList (es : List (Nat × CpInfo)) (last : Nat) : List CpInfo := es.foldr (fun e r => gap e.1 (e.2 :: r)) (gap last [])
def pool (es : List (Nat × CpInfo)) (last : Nat) : Array CpInfo := ⟨poolList es last⟩
def fileOf (pool : Array CpInfo) (this : Nat) (attrs : Array Attribute := #[]) (ms : Array MethodInfo := #[]) (fl : Nat := 33) (sup : Nat := 0) (ifs : Array Nat := #[]) (fds : Array FieldInfo := #[]) : ClassFile where
  minorVersion := 0
  majorVersion := 65
  constantPool := pool
  accessFlags := fl
  thisClass := this
  superClass := sup
  interfaces := ifs
  fields := fds
  methods := ms
  attributes := attrs
def plain (name : String) (sup : Option ClassId) : Class where
  name := name
  kind := .ordinary
  loader := none
  accessFlags := 33
  super := sup
  interfaces := #[]
  cf := none
  fields := #[]
  methods := #[]
  instanceTypes := #[]
  staticTypes := #[]
  resolved := #[]
  callSites := []
  init := .initialized
  statics := none
  mirror := none

def pool0 : Array CpInfo := pool [(5, u "<init>"), (0, u "()V"), (1, .class_ 10), (1, u "java/lang/Object"), (85, u "clone"), (0, u "()Ljava/lang/Object;")] 26

def k0c0 : Code := { maxStack := 0, maxLocals := 1, code := object_method_1_code, exceptionTable := #[], attributes := #[] }
def k0m0 : Method := { name := "<init>", desc := "()V", sig := { parameters := [], returnType := none }, accessFlags := 1, code := some k0c0 }
def k0m1 : Method := { name := "clone", desc := "()Ljava/lang/Object;", sig := { parameters := [], returnType := some (.object "java/lang/Object") }, accessFlags := 260, code := none }
/-- java/lang/Object -/
def k0 : Class := { plain "java/lang/Object" none with
  accessFlags := 33
  interfaces := #[]
  cf := some (fileOf pool0 8 #[] #[{ accessFlags := 1, nameIndex := 5, descriptorIndex := 6, attributes := #[] }, { accessFlags := 260, nameIndex := 96, descriptorIndex := 97, attributes := #[] }] 33 0 #[] #[])
  fields := #[]
  methods := #[k0m0, k0m1]
  instanceTypes := #[]
  staticTypes := #[]
  resolved := Array.replicate 124 none
  statics := none }

def pool1 : Array CpInfo := pool [(2, .class_ 4), (0, .nameAndType 5 6), (0, u "java/lang/Object"), (0, u "<init>"), (0, u "()V"), (0, .methodref 8 9), (0, .class_ 10), (0, .nameAndType 11 12), (0, u "com/example/covering/covering/store/Batch"), (0, u "delete"), (0, u "([B)Lcom/example/covering/covering/store/Batch;"), (0, .methodref 8 14), (0, .nameAndType 15 16), (0, u "put"), (0, u "([B[B)Lcom/example/covering/covering/store/Batch;"), (0, .methodref 8 3), (0, .methodref 19 20), (0, .class_ 21), (0, .nameAndType 22 23), (0, u "com/example/covering/covering/store/BatchKeyPinLaw"), (0, u "add"), (0, u "(Lcom/example/covering/covering/store/Batch;[B[BZ)V"), (0, .methodref 8 25), (0, .nameAndType 26 27), (0, u "key"), (0, u "(I)[B"), (3, u "law"), (0, u "(IIII)Z")] 4

def k1m0 : Method := { name := "<init>", desc := "()V", sig := { parameters := [], returnType := none }, accessFlags := 1, code := none }
def k1c1 : Code := { maxStack := 3, maxLocals := 4, code := method_2_code, exceptionTable := #[], attributes := #[] }
def k1m1 : Method := { name := "add", desc := "(Lcom/example/covering/covering/store/Batch;[B[BZ)V", sig := { parameters := [(.object "com/example/covering/covering/store/Batch"), (.array .byte), (.array .byte), .boolean], returnType := none }, accessFlags := 10, code := some k1c1 }
def k1c2 : Code := { maxStack := 5, maxLocals := 15, code := code, exceptionTable := #[], attributes := #[] }
def k1m2 : Method := { name := "law", desc := "(IIII)Z", sig := { parameters := [.int, .int, .int, .int], returnType := some .boolean }, accessFlags := 9, code := some k1c2 }
/-- com/example/covering/covering/store/BatchKeyPinLaw -/
def k1 : Class := { plain "com/example/covering/covering/store/BatchKeyPinLaw" (some 0) with
  accessFlags := 49
  interfaces := #[]
  cf := some (fileOf pool1 19 #[] #[{ accessFlags := 1, nameIndex := 5, descriptorIndex := 6, attributes := #[] }, { accessFlags := 10, nameIndex := 22, descriptorIndex := 23, attributes := #[] }, { accessFlags := 9, nameIndex := 31, descriptorIndex := 32, attributes := #[] }] 49 2 #[] #[])
  fields := #[]
  methods := #[k1m0, k1m1, k1m2]
  instanceTypes := #[]
  staticTypes := #[]
  resolved := Array.replicate 37 none
  statics := none }

def pool2 : Array CpInfo := pool [(1, .methodref 2 3), (0, .class_ 4), (0, .nameAndType 5 6), (0, u "java/lang/Object"), (0, u "<init>"), (0, u "()V"), (0, .class_ 8), (0, u "java/util/ArrayList"), (0, .methodref 7 3), (0, .fieldref 11 12), (0, .class_ 13), (0, .nameAndType 14 15), (0, u "com/example/covering/covering/store/Batch"), (0, u "keys"), (0, u "Ljava/util/List;"), (0, .fieldref 11 17), (0, .nameAndType 18 15), (0, u "values"), (0, .methodref 20 21), (0, .class_ 22), (0, .nameAndType 23 24), (0, u "[B"), (0, u "clone"), (0, u "()Ljava/lang/Object;"), (0, .interfaceMethodref 26 27), (0, .class_ 28), (0, .nameAndType 29 30), (0, u "java/util/List"), (0, u "add"), (0, u "(Ljava/lang/Object;)Z"), (4, .interfaceMethodref 26 36), (0, .nameAndType 37 38), (0, u "get"), (0, u "(I)Ljava/lang/Object;"), (4, u "put"), (0, u "([B[B)Lcom/example/covering/covering/store/Batch;"), (0, u "delete"), (0, u "([B)Lcom/example/covering/covering/store/Batch;"), (0, u "key"), (0, u "(I)[B")] 3

def k2c0 : Code := { maxStack := 3, maxLocals := 1, code := prog_17_method_1_code, exceptionTable := #[], attributes := #[] }
def k2m0 : Method := { name := "<init>", desc := "()V", sig := { parameters := [], returnType := none }, accessFlags := 1, code := some k2c0 }
def k2c1 : Code := { maxStack := 2, maxLocals := 3, code := prog_17_method_2_code, exceptionTable := #[], attributes := #[] }
def k2m1 : Method := { name := "put", desc := "([B[B)Lcom/example/covering/covering/store/Batch;", sig := { parameters := [(.array .byte), (.array .byte)], returnType := some (.object "com/example/covering/covering/store/Batch") }, accessFlags := 1, code := some k2c1 }
def k2c2 : Code := { maxStack := 2, maxLocals := 2, code := prog_17_method_3_code, exceptionTable := #[], attributes := #[] }
def k2m2 : Method := { name := "delete", desc := "([B)Lcom/example/covering/covering/store/Batch;", sig := { parameters := [(.array .byte)], returnType := some (.object "com/example/covering/covering/store/Batch") }, accessFlags := 1, code := some k2c2 }
def k2c3 : Code := { maxStack := 2, maxLocals := 2, code := prog_17_method_5_code, exceptionTable := #[], attributes := #[] }
def k2m3 : Method := { name := "key", desc := "(I)[B", sig := { parameters := [.int], returnType := some (.array .byte) }, accessFlags := 0, code := some k2c3 }
/-- com/example/covering/covering/store/Batch -/
def k2 : Class := { plain "com/example/covering/covering/store/Batch" (some 0) with
  accessFlags := 33
  interfaces := #[]
  cf := some (fileOf pool2 11 #[] #[{ accessFlags := 1, nameIndex := 5, descriptorIndex := 6, attributes := #[] }, { accessFlags := 1, nameIndex := 43, descriptorIndex := 44, attributes := #[] }, { accessFlags := 1, nameIndex := 45, descriptorIndex := 46, attributes := #[] }, { accessFlags := 0, nameIndex := 47, descriptorIndex := 48, attributes := #[] }] 33 2 #[] #[{ accessFlags := 18, nameIndex := 14, descriptorIndex := 15, attributes := #[] }, { accessFlags := 18, nameIndex := 18, descriptorIndex := 15, attributes := #[] }])
  fields := #[{ name := "keys", type := (.object "java/util/List"), accessFlags := 18, slot := 0, constantValue := 0 }, { name := "values", type := (.object "java/util/List"), accessFlags := 18, slot := 1, constantValue := 0 }]
  methods := #[k2m0, k2m1, k2m2, k2m3]
  instanceTypes := #[(.object "java/util/List"), (.object "java/util/List")]
  staticTypes := #[]
  resolved := Array.replicate 52 none
  statics := none }

def pool3 : Array CpInfo := pool [(8, .class_ 10), (1, u "java/lang/Iterable"), (24, .class_ 36), (0, u "java/lang/Object")] 25

/-- java/lang/Iterable -/
def k3 : Class := { plain "java/lang/Iterable" (some 0) with
  accessFlags := 1537
  interfaces := #[]
  cf := some (fileOf pool3 8 #[] #[] 1537 35 #[] #[])
  fields := #[]
  methods := #[]
  instanceTypes := #[]
  staticTypes := #[]
  resolved := Array.replicate 62 none
  statics := none }

def pool4 : Array CpInfo := pool [(10, .class_ 12), (1, u "java/util/Collection"), (47, .class_ 61), (0, u "java/lang/Object"), (0, .class_ 63), (0, u "java/lang/Iterable")] 51

/-- java/util/Collection -/
def k4 : Class := { plain "java/util/Collection" (some 0) with
  accessFlags := 1537
  interfaces := #[3]
  cf := some (fileOf pool4 10 #[] #[] 1537 60 #[62] #[])
  fields := #[]
  methods := #[]
  instanceTypes := #[]
  staticTypes := #[]
  resolved := Array.replicate 115 none
  statics := none }

def pool5 : Array CpInfo := pool [(1, .methodref 2 3), (0, .class_ 4), (0, .nameAndType 5 6), (0, u "java/lang/Object"), (0, u "<init>"), (0, u "()V"), (1, .class_ 10), (1, u "java/util/AbstractCollection"), (66, .class_ 78), (0, u "java/util/Collection")] 81

def k5c0 : Code := { maxStack := 1, maxLocals := 1, code := jdk_22_method_1_code, exceptionTable := #[], attributes := #[] }
def k5m0 : Method := { name := "<init>", desc := "()V", sig := { parameters := [], returnType := none }, accessFlags := 4, code := some k5c0 }
/-- java/util/AbstractCollection -/
def k5 : Class := { plain "java/util/AbstractCollection" (some 0) with
  accessFlags := 1057
  interfaces := #[4]
  cf := some (fileOf pool5 8 #[] #[{ accessFlags := 4, nameIndex := 5, descriptorIndex := 6, attributes := #[] }] 1057 2 #[77] #[])
  fields := #[]
  methods := #[k5m0]
  instanceTypes := #[]
  staticTypes := #[]
  resolved := Array.replicate 160 none
  statics := none }

def pool6 : Array CpInfo := pool [(8, .class_ 10), (1, u "java/util/SequencedCollection"), (15, .class_ 27), (0, u "java/lang/Object"), (0, .class_ 29), (0, u "java/util/Collection")] 27

/-- java/util/SequencedCollection -/
def k6 : Class := { plain "java/util/SequencedCollection" (some 0) with
  accessFlags := 1537
  interfaces := #[4]
  cf := some (fileOf pool6 8 #[] #[] 1537 26 #[28] #[])
  fields := #[]
  methods := #[]
  instanceTypes := #[]
  staticTypes := #[]
  resolved := Array.replicate 57 none
  statics := none }

def pool7 : Array CpInfo := pool [(8, .class_ 10), (1, u "java/util/List"), (49, u "add"), (3, u "(Ljava/lang/Object;)Z"), (10, u "get"), (0, u "(I)Ljava/lang/Object;"), (26, .class_ 104), (0, u "java/lang/Object"), (15, .class_ 121), (0, u "java/util/SequencedCollection")] 129

def k7m0 : Method := { name := "add", desc := "(Ljava/lang/Object;)Z", sig := { parameters := [(.object "java/lang/Object")], returnType := some .boolean }, accessFlags := 1025, code := none }
def k7m1 : Method := { name := "get", desc := "(I)Ljava/lang/Object;", sig := { parameters := [.int], returnType := some (.object "java/lang/Object") }, accessFlags := 1025, code := none }
/-- java/util/List -/
def k7 : Class := { plain "java/util/List" (some 0) with
  accessFlags := 1537
  interfaces := #[6]
  cf := some (fileOf pool7 8 #[] #[{ accessFlags := 1025, nameIndex := 60, descriptorIndex := 64, attributes := #[] }, { accessFlags := 1025, nameIndex := 75, descriptorIndex := 76, attributes := #[] }] 1537 103 #[120] #[])
  fields := #[]
  methods := #[k7m0, k7m1]
  instanceTypes := #[]
  staticTypes := #[]
  resolved := Array.replicate 251 none
  statics := none }

def pool8 : Array CpInfo := pool [(1, .methodref 2 3), (0, .class_ 4), (0, .nameAndType 5 6), (0, u "java/util/AbstractCollection"), (0, u "<init>"), (0, u "()V"), (0, .fieldref 8 9), (0, .class_ 10), (0, .nameAndType 11 12), (0, u "java/util/AbstractList"), (0, u "modCount"), (0, u "I"), (64, .class_ 78), (0, u "java/util/AbstractList$Itr"), (3, .class_ 83), (0, u "java/util/AbstractList$ListItr"), (9, .class_ 94), (0, u "java/util/AbstractList$RandomAccessSubList"), (3, .class_ 99), (0, u "java/util/AbstractList$SubList"), (33, .class_ 134), (0, u "java/util/List"), (73, .class_ 209), (0, u "java/util/AbstractList$SubList$1"), (0, .class_ 211), (0, u "java/util/AbstractList$RandomAccessSpliterator")] 6

def k8c0 : Code := { maxStack := 2, maxLocals := 1, code := jdk_39_method_1_code, exceptionTable := #[], attributes := #[] }
def k8m0 : Method := { name := "<init>", desc := "()V", sig := { parameters := [], returnType := none }, accessFlags := 4, code := some k8c0 }
/-- java/util/AbstractList -/
def k8 : Class := { plain "java/util/AbstractList" (some 5) with
  accessFlags := 1057
  interfaces := #[7]
  cf := some (fileOf pool8 8 #[.nestMembers #[93, 98, 208, 210, 82, 77]] #[{ accessFlags := 4, nameIndex := 5, descriptorIndex := 6, attributes := #[] }] 1057 2 #[133] #[{ accessFlags := 132, nameIndex := 11, descriptorIndex := 12, attributes := #[] }])
  fields := #[{ name := "modCount", type := .int, accessFlags := 132, slot := 0, constantValue := 0 }]
  methods := #[k8m0]
  instanceTypes := #[.int]
  staticTypes := #[]
  resolved := Array.replicate 218 none
  statics := none }

def pool9 : Array CpInfo := pool [(1, .class_ 2), (0, u "java/util/RandomAccess"), (0, .class_ 4), (0, u "java/lang/Object")] 2

/-- java/util/RandomAccess -/
def k9 : Class := { plain "java/util/RandomAccess" (some 0) with
  accessFlags := 1537
  interfaces := #[]
  cf := some (fileOf pool9 1 #[] #[] 1537 3 #[] #[])
  fields := #[]
  methods := #[]
  instanceTypes := #[]
  staticTypes := #[]
  resolved := Array.replicate 7 none
  statics := none }

def pool10 : Array CpInfo := pool [(1, .class_ 2), (0, u "java/lang/Cloneable"), (0, .class_ 4), (0, u "java/lang/Object")] 2

/-- java/lang/Cloneable -/
def k10 : Class := { plain "java/lang/Cloneable" (some 0) with
  accessFlags := 1537
  interfaces := #[]
  cf := some (fileOf pool10 1 #[] #[] 1537 3 #[] #[])
  fields := #[]
  methods := #[]
  instanceTypes := #[]
  staticTypes := #[]
  resolved := Array.replicate 7 none
  statics := none }

def pool11 : Array CpInfo := pool [(1, .class_ 2), (0, u "java/io/Serializable"), (0, .class_ 4), (0, u "java/lang/Object")] 2

/-- java/io/Serializable -/
def k11 : Class := { plain "java/io/Serializable" (some 0) with
  accessFlags := 1537
  interfaces := #[]
  cf := some (fileOf pool11 1 #[] #[] 1537 3 #[] #[])
  fields := #[]
  methods := #[]
  instanceTypes := #[]
  staticTypes := #[]
  resolved := Array.replicate 7 none
  statics := none }

def pool12 : Array CpInfo := pool [(1, .methodref 2 3), (0, .class_ 4), (0, .nameAndType 5 6), (0, u "java/util/AbstractList"), (0, u "<init>"), (0, u "()V"), (0, .class_ 8), (0, u "java/lang/Object"), (0, .fieldref 10 11), (0, .class_ 12), (0, .nameAndType 13 14), (0, u "java/util/ArrayList"), (0, u "elementData"), (0, u "[Ljava/lang/Object;"), (2, u "EMPTY_ELEMENTDATA"), (21, .fieldref 10 40), (0, .nameAndType 41 14), (0, u "DEFAULTCAPACITY_EMPTY_ELEMENTDATA"), (5, u "()[Ljava/lang/Object;"), (0, .fieldref 10 49), (0, .nameAndType 50 51), (0, u "size"), (0, u "I"), (11, .fieldref 10 64), (0, .nameAndType 65 51), (0, u "modCount"), (3, .methodref 10 70), (0, .nameAndType 71 72), (0, u "grow"), (0, u "(I)[Ljava/lang/Object;"), (6, .methodref 80 81), (0, .class_ 82), (0, .nameAndType 83 84), (0, u "java/lang/Math"), (0, u "max"), (0, u "(II)I"), (11, u "(Ljava/lang/Object;)Z"), (21, .methodref 119 120), (0, .class_ 121), (0, .nameAndType 122 84), (0, u "java/util/Objects"), (0, u "checkIndex"), (0, .methodref 10 124), (0, .nameAndType 13 125), (0, u "(I)Ljava/lang/Object;"), (3, .methodref 10 130), (0, .nameAndType 71 47), (0, .methodref 10 132), (0, .nameAndType 133 134), (0, u "add"), (0, u "(Ljava/lang/Object;[Ljava/lang/Object;I)V"), (13, .class_ 149), (0, u "java/util/List"), (112, .class_ 263), (0, u "java/util/ArrayList$ListItr"), (3, .class_ 268), (0, u "java/util/ArrayList$Itr"), (7, .class_ 277), (0, u "java/util/ArrayList$SubList"), (12, .class_ 291), (0, u "java/util/ArrayList$ArrayListSpliterator"), (37, .class_ 330), (0, u "java/util/RandomAccess"), (0, .class_ 332), (0, u "java/lang/Cloneable"), (0, .class_ 334), (0, u "java/io/Serializable"), (0, u "serialVersionUID"), (0, u "J"), (3, u "DEFAULT_CAPACITY"), (40, u "get"), (118, .class_ 501), (0, u "java/util/ArrayList$SubList$2"), (0, .class_ 503), (0, u "java/util/ArrayList$SubList$1")] 5

def k12c0 : Code := { maxStack := 2, maxLocals := 1, code := jdk_38_method_2_code, exceptionTable := #[], attributes := #[] }
def k12m0 : Method := { name := "<init>", desc := "()V", sig := { parameters := [], returnType := none }, accessFlags := 1, code := some k12c0 }
def k12c1 : Code := { maxStack := 4, maxLocals := 4, code := jdk_38_method_6_code, exceptionTable := #[], attributes := #[] }
def k12m1 : Method := { name := "grow", desc := "(I)[Ljava/lang/Object;", sig := { parameters := [.int], returnType := some (.array (.object "java/lang/Object")) }, accessFlags := 2, code := some k12c1 }
def k12c2 : Code := { maxStack := 3, maxLocals := 1, code := jdk_38_method_7_code, exceptionTable := #[], attributes := #[] }
def k12m2 : Method := { name := "grow", desc := "()[Ljava/lang/Object;", sig := { parameters := [], returnType := some (.array (.object "java/lang/Object")) }, accessFlags := 2, code := some k12c2 }
def k12c3 : Code := { maxStack := 2, maxLocals := 2, code := jdk_38_method_18_code, exceptionTable := #[], attributes := #[] }
def k12m3 : Method := { name := "elementData", desc := "(I)Ljava/lang/Object;", sig := { parameters := [.int], returnType := some (.object "java/lang/Object") }, accessFlags := 0, code := some k12c3 }
def k12c4 : Code := { maxStack := 2, maxLocals := 2, code := jdk_38_method_20_code, exceptionTable := #[], attributes := #[] }
def k12m4 : Method := { name := "get", desc := "(I)Ljava/lang/Object;", sig := { parameters := [.int], returnType := some (.object "java/lang/Object") }, accessFlags := 1, code := some k12c4 }
def k12c5 : Code := { maxStack := 3, maxLocals := 4, code := jdk_38_method_24_code, exceptionTable := #[], attributes := #[] }
def k12m5 : Method := { name := "add", desc := "(Ljava/lang/Object;[Ljava/lang/Object;I)V", sig := { parameters := [(.object "java/lang/Object"), (.array (.object "java/lang/Object")), .int], returnType := none }, accessFlags := 2, code := some k12c5 }
def k12c6 : Code := { maxStack := 4, maxLocals := 2, code := jdk_38_method_25_code, exceptionTable := #[], attributes := #[] }
def k12m6 : Method := { name := "add", desc := "(Ljava/lang/Object;)Z", sig := { parameters := [(.object "java/lang/Object")], returnType := some .boolean }, accessFlags := 1, code := some k12c6 }
/-- java/util/ArrayList -/
def k12 : Class := { plain "java/util/ArrayList" (some 8) with
  accessFlags := 33
  interfaces := #[7, 9, 10, 11]
  cf := some (fileOf pool12 10 #[.nestMembers #[290, 276, 500, 502, 262, 267]] #[{ accessFlags := 1, nameIndex := 5, descriptorIndex := 6, attributes := #[] }, { accessFlags := 2, nameIndex := 71, descriptorIndex := 72, attributes := #[] }, { accessFlags := 2, nameIndex := 71, descriptorIndex := 47, attributes := #[] }, { accessFlags := 0, nameIndex := 13, descriptorIndex := 125, attributes := #[] }, { accessFlags := 1, nameIndex := 381, descriptorIndex := 125, attributes := #[] }, { accessFlags := 2, nameIndex := 133, descriptorIndex := 134, attributes := #[] }, { accessFlags := 1, nameIndex := 133, descriptorIndex := 96, attributes := #[] }] 33 2 #[148, 329, 331, 333] #[{ accessFlags := 26, nameIndex := 335, descriptorIndex := 336, attributes := #[] }, { accessFlags := 26, nameIndex := 340, descriptorIndex := 51, attributes := #[] }, { accessFlags := 26, nameIndex := 17, descriptorIndex := 14, attributes := #[] }, { accessFlags := 26, nameIndex := 41, descriptorIndex := 14, attributes := #[] }, { accessFlags := 128, nameIndex := 13, descriptorIndex := 14, attributes := #[] }, { accessFlags := 2, nameIndex := 50, descriptorIndex := 51, attributes := #[] }])
  fields := #[{ name := "serialVersionUID", type := .long, accessFlags := 26, slot := 0, constantValue := 0 }, { name := "DEFAULT_CAPACITY", type := .int, accessFlags := 26, slot := 1, constantValue := 0 }, { name := "EMPTY_ELEMENTDATA", type := (.array (.object "java/lang/Object")), accessFlags := 26, slot := 2, constantValue := 0 }, { name := "DEFAULTCAPACITY_EMPTY_ELEMENTDATA", type := (.array (.object "java/lang/Object")), accessFlags := 26, slot := 3, constantValue := 0 }, { name := "elementData", type := (.array (.object "java/lang/Object")), accessFlags := 128, slot := 1, constantValue := 0 }, { name := "size", type := .int, accessFlags := 2, slot := 2, constantValue := 0 }]
  methods := #[k12m0, k12m1, k12m2, k12m3, k12m4, k12m5, k12m6]
  instanceTypes := #[.int, (.array (.object "java/lang/Object")), .int]
  staticTypes := #[.long, .int, (.array (.object "java/lang/Object")), (.array (.object "java/lang/Object"))]
  resolved := Array.replicate 509 none
  statics := some 0 }

def pool13 : Array CpInfo := pool [(1, .class_ 2), (0, u "java/lang/Math"), (1, .class_ 6), (1, u "java/lang/Object"), (0, u "<init>"), (0, u "()V"), (89, .class_ 100), (1, u "java/lang/Math$RandomNumberGeneratorHolder"), (71, u "negativeZeroFloatBits"), (0, u "J"), (2, u "negativeZeroDoubleBits"), (21, u "max"), (46, u "$assertionsDisabled"), (0, u "Z"), (88, u "(II)I"), (2, u "twoToTheDoubleScaleDown"), (0, u "D"), (4, u "twoToTheDoubleScaleUp"), (9, u "E"), (3, u "PI"), (2, u "TAU"), (2, u "DEGREES_TO_RADIANS"), (0, u "RADIANS_TO_DEGREES")] 94

def k13m0 : Method := { name := "<init>", desc := "()V", sig := { parameters := [], returnType := none }, accessFlags := 2, code := none }
def k13c1 : Code := { maxStack := 2, maxLocals := 2, code := jdk_29_method_65_code, exceptionTable := #[], attributes := #[] }
def k13m1 : Method := { name := "max", desc := "(II)I", sig := { parameters := [.int, .int], returnType := some .int }, accessFlags := 9, code := some k13c1 }
/-- java/lang/Math -/
def k13 : Class := { plain "java/lang/Math" (some 0) with
  accessFlags := 49
  interfaces := #[]
  cf := some (fileOf pool13 1 #[.nestMembers #[98]] #[{ accessFlags := 2, nameIndex := 7, descriptorIndex := 8, attributes := #[] }, { accessFlags := 9, nameIndex := 198, descriptorIndex := 335, attributes := #[] }] 49 4 #[] #[{ accessFlags := 25, nameIndex := 354, descriptorIndex := 339, attributes := #[] }, { accessFlags := 25, nameIndex := 358, descriptorIndex := 339, attributes := #[] }, { accessFlags := 25, nameIndex := 361, descriptorIndex := 339, attributes := #[] }, { accessFlags := 26, nameIndex := 364, descriptorIndex := 339, attributes := #[] }, { accessFlags := 26, nameIndex := 365, descriptorIndex := 339, attributes := #[] }, { accessFlags := 26, nameIndex := 172, descriptorIndex := 173, attributes := #[] }, { accessFlags := 26, nameIndex := 176, descriptorIndex := 173, attributes := #[] }, { accessFlags := 8, nameIndex := 344, descriptorIndex := 339, attributes := #[] }, { accessFlags := 8, nameIndex := 338, descriptorIndex := 339, attributes := #[] }, { accessFlags := 4120, nameIndex := 245, descriptorIndex := 246, attributes := #[] }])
  fields := #[{ name := "E", type := .double, accessFlags := 25, slot := 0, constantValue := 0 }, { name := "PI", type := .double, accessFlags := 25, slot := 1, constantValue := 0 }, { name := "TAU", type := .double, accessFlags := 25, slot := 2, constantValue := 0 }, { name := "DEGREES_TO_RADIANS", type := .double, accessFlags := 26, slot := 3, constantValue := 0 }, { name := "RADIANS_TO_DEGREES", type := .double, accessFlags := 26, slot := 4, constantValue := 0 }, { name := "negativeZeroFloatBits", type := .long, accessFlags := 26, slot := 5, constantValue := 0 }, { name := "negativeZeroDoubleBits", type := .long, accessFlags := 26, slot := 6, constantValue := 0 }, { name := "twoToTheDoubleScaleUp", type := .double, accessFlags := 8, slot := 7, constantValue := 0 }, { name := "twoToTheDoubleScaleDown", type := .double, accessFlags := 8, slot := 8, constantValue := 0 }, { name := "$assertionsDisabled", type := .boolean, accessFlags := 4120, slot := 9, constantValue := 0 }]
  methods := #[k13m0, k13m1]
  instanceTypes := #[]
  staticTypes := #[.double, .double, .double, .double, .double, .long, .long, .double, .double, .boolean]
  resolved := Array.replicate 460 none
  statics := none }

def pool14 : Array CpInfo := pool [(2, .class_ 4), (1, u "java/lang/Object"), (0, u "<init>"), (0, u "()V"), (35, .class_ 44), (1, u "java/util/Objects"), (60, .methodref 106 107), (0, .class_ 108), (0, .nameAndType 109 110), (0, u "jdk/internal/util/Preconditions"), (0, u "checkIndex"), (0, u "(IILjava/util/function/BiFunction;)I"), (60, u "(II)I")] 12

def k14m0 : Method := { name := "<init>", desc := "()V", sig := { parameters := [], returnType := none }, accessFlags := 2, code := none }
def k14c1 : Code := { maxStack := 3, maxLocals := 2, code := jdk_31_method_17_code, exceptionTable := #[], attributes := #[] }
def k14m1 : Method := { name := "checkIndex", desc := "(II)I", sig := { parameters := [.int, .int], returnType := some .int }, accessFlags := 9, code := some k14c1 }
/-- java/util/Objects -/
def k14 : Class := { plain "java/util/Objects" (some 0) with
  accessFlags := 49
  interfaces := #[]
  cf := some (fileOf pool14 42 #[] #[{ accessFlags := 2, nameIndex := 5, descriptorIndex := 6, attributes := #[] }, { accessFlags := 9, nameIndex := 109, descriptorIndex := 171, attributes := #[] }] 49 2 #[] #[])
  fields := #[]
  methods := #[k14m0, k14m1]
  instanceTypes := #[]
  staticTypes := #[]
  resolved := Array.replicate 184 none
  statics := none }

def pool15 : Array CpInfo := pool [(2, .class_ 4), (1, u "java/lang/Object"), (0, u "<init>"), (0, u "()V"), (17, .class_ 26), (1, u "jdk/internal/util/Preconditions"), (6, u "checkIndex"), (21, .class_ 56), (0, u "jdk/internal/util/Preconditions$4"), (57, .class_ 115), (0, u "jdk/internal/util/Preconditions$1"), (7, u "SIOOBE_FORMATTER"), (0, u "Ljava/util/function/BiFunction;"), (0, .class_ 126), (0, u "jdk/internal/util/Preconditions$2"), (3, u "AIOOBE_FORMATTER"), (0, .class_ 132), (0, u "jdk/internal/util/Preconditions$3"), (3, u "IOOBE_FORMATTER"), (41, u "(IILjava/util/function/BiFunction;)I")] 15

def k15m0 : Method := { name := "<init>", desc := "()V", sig := { parameters := [], returnType := none }, accessFlags := 1, code := none }
def k15c1 : Code := { maxStack := 3, maxLocals := 3, code := jdk_41_method_11_code, exceptionTable := #[], attributes := #[] }
def k15m1 : Method := { name := "checkIndex", desc := "(IILjava/util/function/BiFunction;)I", sig := { parameters := [.int, .int, (.object "java/util/function/BiFunction")], returnType := some .int }, accessFlags := 9, code := some k15c1 }
/-- jdk/internal/util/Preconditions -/
def k15 : Class := { plain "jdk/internal/util/Preconditions" (some 0) with
  accessFlags := 33
  interfaces := #[]
  cf := some (fileOf pool15 24 #[.nestMembers #[55, 131, 125, 114]] #[{ accessFlags := 1, nameIndex := 5, descriptorIndex := 6, attributes := #[] }, { accessFlags := 9, nameIndex := 33, descriptorIndex := 178, attributes := #[] }] 33 2 #[] #[{ accessFlags := 25, nameIndex := 123, descriptorIndex := 124, attributes := #[] }, { accessFlags := 25, nameIndex := 130, descriptorIndex := 124, attributes := #[] }, { accessFlags := 25, nameIndex := 136, descriptorIndex := 124, attributes := #[] }])
  fields := #[{ name := "SIOOBE_FORMATTER", type := (.object "java/util/function/BiFunction"), accessFlags := 25, slot := 0, constantValue := 0 }, { name := "AIOOBE_FORMATTER", type := (.object "java/util/function/BiFunction"), accessFlags := 25, slot := 1, constantValue := 0 }, { name := "IOOBE_FORMATTER", type := (.object "java/util/function/BiFunction"), accessFlags := 25, slot := 2, constantValue := 0 }]
  methods := #[k15m0, k15m1]
  instanceTypes := #[]
  staticTypes := #[(.object "java/util/function/BiFunction"), (.object "java/util/function/BiFunction"), (.object "java/util/function/BiFunction")]
  resolved := Array.replicate 194 none
  statics := none }

/-- the primitive byte -/
def k16 : Class := { plain "byte" none with kind := .primitive 'B', accessFlags := 0x411 }
/-- [B -/
def k17 : Class := { plain "[B" (some 0) with kind := .array 16 .byte, interfaces := #[10, 11], accessFlags := 1041 }

/-- the primitive int -/
def k18 : Class := { plain "int" none with kind := .primitive 'I', accessFlags := 0x411 }
/-- [I -/
def k19 : Class := { plain "[I" (some 0) with kind := .array 18 .int, interfaces := #[10, 11], accessFlags := 1041 }

/-- [Ljava/lang/Object; -/
def k20 : Class := { plain "[Ljava/lang/Object;" (some 0) with kind := .array 0 (.object "java/lang/Object"), interfaces := #[10, 11], accessFlags := 1041 }

def heap : Heap := #[{ cls := 12, slots := #[.long 0, .int 0, .ref 1, .ref 2], vm := .statics 12 },
  { cls := 20, slots := #[], vm := .none },
  { cls := 20, slots := #[], vm := .none }]
def classes : Array Class := #[k0, k1, k2, k3, k4, k5, k6, k7, k8, k9, k10, k11, k12, k13, k14, k15, k16, k17, k18, k19, k20]
def interned : List (Array UInt16 × Addr) := []
def slotsUsed : Nat := 4
def theMethod : MethodId := ⟨1, 2⟩
def args0 : Array Value := #[.int 5, .int 300, .int 7, .int 10]
def aboutOver (below : List Frame) : State where
  vm := { classes := classes, interned := interned.toArray }
  heap := heap
  slotsUsed := slotsUsed
  threads := #[{ frames := .invoking theMethod args0 :: below }]
def below0 : List Frame := [.native { method := ⟨0, 0⟩, args := #[] }]
def about1 : State := aboutOver below0
def p0 : Program := .bare "" "" ""
def e0 : Env := launch0.env 0 0 0
theorem w_frames : about1.frames = Frame.invoking theMethod args0 :: below0 := rfl
set_option maxRecDepth 65536 in
theorem w_args : argsFit about1.vm theMethod args0 = true := by decide +kernel
set_option maxRecDepth 65536 in
theorem w_heap : heapFits about1 = true := by decide +kernel
set_option maxRecDepth 65536 in
theorem w_runnable : about1.curStatus? = some .runnable := by decide +kernel
set_option maxRecDepth 65536 in
theorem w_alone : about1.alone = true := by decide +kernel
set_option maxRecDepth 65536 in
theorem w_named : about1.methodNamed? x = some theMethod := by decide +kernel
set_option maxRecDepth 65536 in
theorem w_hears : about1.hears theMethod below0 = true := by decide +kernel
set_option maxRecDepth 65536 in
theorem w_ripe : about1.ripe theMethod args0 below0 = true := by decide +kernel
theorem w_running : about1.status = .running := rfl
set_option maxRecDepth 65536 in
theorem w_room : about1.hasRoom e0.platform room_1 = true :=
  launch0.hasRoom_least _ room_1 (by decide +kernel) (by decide +kernel) (by decide +kernel) (by decide +kernel) (by decide +kernel) (by decide +kernel)
theorem allAtoms_all (ts : List Jvm.Cond) (a : Array Jvm.Value) (st : Jvm.State) : (allAtoms ts).before a st = ts.all (fun c => c.before a st) := by
  induction ts with
  | nil => rfl
  | cons c t ih =>
    show (Jvm.Cond.and c (allAtoms t)).before a st = _
    rw [Jvm.Cond.before_and, ih, List.all_cons]
def words1 : List Jvm.Cond := Jvm.Cond.code x code maxLocals ret :: tables_1
/-- a 'code' word, met by the world's own term for the bytes: nothing is compared byte by byte -/
theorem code_word {y : MethodName} {bytes : ByteArray} {mx : Nat} {rt : Option FieldType} {a : Array Value} {s : State} {m : MethodId} {meth : Method} {c : Code} (h1 : s.methodNamed? y = some m) (h2 : s.vm.method? m = some meth) (h3 : meth.code = some c) (h4 : c.code = bytes)
    (h5 : (c.maxLocals == mx && c.exceptionTable.isEmpty && decide (c.maxStack ≤ mostOperands) && decide (meth.sig.returnType = rt) && !meth.locks && decide (parseMethodDescriptor y.desc = some meth.sig)) = true) : (Jvm.Cond.code y bytes mx rt).before a s = true := by
  simp only [Bool.and_eq_true, beq_iff_eq, Bool.not_eq_true', decide_eq_true_eq] at h5
  obtain ⟨⟨⟨⟨⟨g1, g2⟩, g3⟩, g4⟩, g5⟩, g6⟩ := h5
  simp [Cond.before, Cond.holds, Cond.value, h1, h2, h3, h4, g1, g2, g3, g4, g5, g6]
def isCode : Jvm.Cond → Bool
  | .code _ _ _ _ => true
  | _ => false
theorem all_split {L : List Jvm.Cond} {P : Jvm.Cond → Bool} (h1 : L.all (fun c => isCode c || P c) = true) (h2 : ∀ c ∈ L.filter isCode, P c = true) : L.all P = true := by
  refine List.all_eq_true.mpr fun c hc => ?_
  have h := List.all_eq_true.mp h1 c hc
  rcases Bool.eq_false_or_eq_true (isCode c) with hi | hi
  · exact h2 c (List.mem_filter.mpr ⟨hc, hi⟩)
  · simpa [hi] using h
set_option maxRecDepth 65536 in
theorem w_c0 : (Jvm.Cond.code x code maxLocals ret).before args0 about1 = true := code_word (m := ⟨1, 2⟩) (meth := k1m2) (c := k1c2) (by decide +kernel) rfl rfl rfl (by decide +kernel)
set_option maxRecDepth 65536 in
theorem w_c1 : (Jvm.Cond.code ({ cls := "com/example/covering/covering/store/Batch", name := "<init>", desc := "()V" } : Jvm.MethodName) prog_17_method_1_code (1 : Nat) (Option.none : Option Jvm.ClassFile.FieldType)).before args0 about1 = true := code_word (m := ⟨2, 0⟩) (meth := k2m0) (c := k2c0) (by decide +kernel) rfl rfl rfl (by decide +kernel)
set_option maxRecDepth 65536 in
theorem w_c2 : (Jvm.Cond.code ({ cls := "java/lang/Object", name := "<init>", desc := "()V" } : Jvm.MethodName) object_method_1_code (1 : Nat) (Option.none : Option Jvm.ClassFile.FieldType)).before args0 about1 = true := code_word (m := ⟨0, 0⟩) (meth := k0m0) (c := k0c0) (by decide +kernel) rfl rfl rfl (by decide +kernel)
set_option maxRecDepth 65536 in
theorem w_c3 : (Jvm.Cond.code ({ cls := "java/util/ArrayList", name := "<init>", desc := "()V" } : Jvm.MethodName) jdk_38_method_2_code (1 : Nat) (Option.none : Option Jvm.ClassFile.FieldType)).before args0 about1 = true := code_word (m := ⟨12, 0⟩) (meth := k12m0) (c := k12c0) (by decide +kernel) rfl rfl rfl (by decide +kernel)
set_option maxRecDepth 65536 in
theorem w_c4 : (Jvm.Cond.code ({ cls := "java/util/AbstractList", name := "<init>", desc := "()V" } : Jvm.MethodName) jdk_39_method_1_code (1 : Nat) (Option.none : Option Jvm.ClassFile.FieldType)).before args0 about1 = true := code_word (m := ⟨8, 0⟩) (meth := k8m0) (c := k8c0) (by decide +kernel) rfl rfl rfl (by decide +kernel)
set_option maxRecDepth 65536 in
theorem w_c5 : (Jvm.Cond.code ({ cls := "java/util/AbstractCollection", name := "<init>", desc := "()V" } : Jvm.MethodName) jdk_22_method_1_code (1 : Nat) (Option.none : Option Jvm.ClassFile.FieldType)).before args0 about1 = true := code_word (m := ⟨5, 0⟩) (meth := k5m0) (c := k5c0) (by decide +kernel) rfl rfl rfl (by decide +kernel)
set_option maxRecDepth 65536 in
theorem w_c6 : (Jvm.Cond.code ({ cls := "com/example/covering/covering/store/BatchKeyPinLaw", name := "add", desc := "(Lcom/example/covering/covering/store/Batch;[B[BZ)V" } : Jvm.MethodName) method_2_code (4 : Nat) (Option.none : Option Jvm.ClassFile.FieldType)).before args0 about1 = true := code_word (m := ⟨1, 1⟩) (meth := k1m1) (c := k1c1) (by decide +kernel) rfl rfl rfl (by decide +kernel)
set_option maxRecDepth 65536 in
theorem w_c7 : (Jvm.Cond.code ({ cls := "com/example/covering/covering/store/Batch", name := "delete", desc := "([B)Lcom/example/covering/covering/store/Batch;" } : Jvm.MethodName) prog_17_method_3_code (2 : Nat) (Option.some (Jvm.ClassFile.FieldType.object "com/example/covering/covering/store/Batch"))).before args0 about1 = true := code_word (m := ⟨2, 2⟩) (meth := k2m2) (c := k2c2) (by decide +kernel) rfl rfl rfl (by decide +kernel)
set_option maxRecDepth 65536 in
theorem w_c8 : (Jvm.Cond.code ({ cls := "java/util/ArrayList", name := "add", desc := "(Ljava/lang/Object;)Z" } : Jvm.MethodName) jdk_38_method_25_code (2 : Nat) (Option.some Jvm.ClassFile.FieldType.boolean)).before args0 about1 = true := code_word (m := ⟨12, 6⟩) (meth := k12m6) (c := k12c6) (by decide +kernel) rfl rfl rfl (by decide +kernel)
set_option maxRecDepth 65536 in
theorem w_c9 : (Jvm.Cond.code ({ cls := "java/util/ArrayList", name := "add", desc := "(Ljava/lang/Object;[Ljava/lang/Object;I)V" } : Jvm.MethodName) jdk_38_method_24_code (4 : Nat) (Option.none : Option Jvm.ClassFile.FieldType)).before args0 about1 = true := code_word (m := ⟨12, 5⟩) (meth := k12m5) (c := k12c5) (by decide +kernel) rfl rfl rfl (by decide +kernel)
set_option maxRecDepth 65536 in
theorem w_c10 : (Jvm.Cond.code ({ cls := "java/util/ArrayList", name := "grow", desc := "()[Ljava/lang/Object;" } : Jvm.MethodName) jdk_38_method_7_code (1 : Nat) (Option.some (Jvm.ClassFile.FieldType.array (Jvm.ClassFile.FieldType.object "java/lang/Object")))).before args0 about1 = true := code_word (m := ⟨12, 2⟩) (meth := k12m2) (c := k12c2) (by decide +kernel) rfl rfl rfl (by decide +kernel)
set_option maxRecDepth 65536 in
theorem w_c11 : (Jvm.Cond.code ({ cls := "java/util/ArrayList", name := "grow", desc := "(I)[Ljava/lang/Object;" } : Jvm.MethodName) jdk_38_method_6_code (4 : Nat) (Option.some (Jvm.ClassFile.FieldType.array (Jvm.ClassFile.FieldType.object "java/lang/Object")))).before args0 about1 = true := code_word (m := ⟨12, 1⟩) (meth := k12m1) (c := k12c1) (by decide +kernel) rfl rfl rfl (by decide +kernel)
set_option maxRecDepth 65536 in
theorem w_c12 : (Jvm.Cond.code ({ cls := "java/lang/Math", name := "max", desc := "(II)I" } : Jvm.MethodName) jdk_29_method_65_code (2 : Nat) (Option.some Jvm.ClassFile.FieldType.int)).before args0 about1 = true := code_word (m := ⟨13, 1⟩) (meth := k13m1) (c := k13c1) (by decide +kernel) rfl rfl rfl (by decide +kernel)
set_option maxRecDepth 65536 in
theorem w_c13 : (Jvm.Cond.code ({ cls := "com/example/covering/covering/store/Batch", name := "put", desc := "([B[B)Lcom/example/covering/covering/store/Batch;" } : Jvm.MethodName) prog_17_method_2_code (3 : Nat) (Option.some (Jvm.ClassFile.FieldType.object "com/example/covering/covering/store/Batch"))).before args0 about1 = true := code_word (m := ⟨2, 1⟩) (meth := k2m1) (c := k2c1) (by decide +kernel) rfl rfl rfl (by decide +kernel)
set_option maxRecDepth 65536 in
theorem w_c14 : (Jvm.Cond.code ({ cls := "com/example/covering/covering/store/Batch", name := "key", desc := "(I)[B" } : Jvm.MethodName) prog_17_method_5_code (2 : Nat) (Option.some (Jvm.ClassFile.FieldType.array Jvm.ClassFile.FieldType.byte))).before args0 about1 = true := code_word (m := ⟨2, 3⟩) (meth := k2m3) (c := k2c3) (by decide +kernel) rfl rfl rfl (by decide +kernel)
set_option maxRecDepth 65536 in
theorem w_c15 : (Jvm.Cond.code ({ cls := "java/util/ArrayList", name := "get", desc := "(I)Ljava/lang/Object;" } : Jvm.MethodName) jdk_38_method_20_code (2 : Nat) (Option.some (Jvm.ClassFile.FieldType.object "java/lang/Object"))).before args0 about1 = true := code_word (m := ⟨12, 4⟩) (meth := k12m4) (c := k12c4) (by decide +kernel) rfl rfl rfl (by decide +kernel)
set_option maxRecDepth 65536 in
theorem w_c16 : (Jvm.Cond.code ({ cls := "java/util/Objects", name := "checkIndex", desc := "(II)I" } : Jvm.MethodName) jdk_31_method_17_code (2 : Nat) (Option.some Jvm.ClassFile.FieldType.int)).before args0 about1 = true := code_word (m := ⟨14, 1⟩) (meth := k14m1) (c := k14c1) (by decide +kernel) rfl rfl rfl (by decide +kernel)
set_option maxRecDepth 65536 in
theorem w_c17 : (Jvm.Cond.code ({ cls := "jdk/internal/util/Preconditions", name := "checkIndex", desc := "(IILjava/util/function/BiFunction;)I" } : Jvm.MethodName) jdk_41_method_11_code (3 : Nat) (Option.some Jvm.ClassFile.FieldType.int)).before args0 about1 = true := code_word (m := ⟨15, 1⟩) (meth := k15m1) (c := k15c1) (by decide +kernel) rfl rfl rfl (by decide +kernel)
set_option maxRecDepth 65536 in
theorem w_c18 : (Jvm.Cond.code ({ cls := "java/util/ArrayList", name := "elementData", desc := "(I)Ljava/lang/Object;" } : Jvm.MethodName) jdk_38_method_18_code (2 : Nat) (Option.some (Jvm.ClassFile.FieldType.object "java/lang/Object"))).before args0 about1 = true := code_word (m := ⟨12, 3⟩) (meth := k12m3) (c := k12c3) (by decide +kernel) rfl rfl rfl (by decide +kernel)
def codes1 : List Jvm.Cond := [Jvm.Cond.code x code maxLocals ret, Jvm.Cond.code ({ cls := "com/example/covering/covering/store/Batch", name := "<init>", desc := "()V" } : Jvm.MethodName) prog_17_method_1_code (1 : Nat) (Option.none : Option Jvm.ClassFile.FieldType), Jvm.Cond.code ({ cls := "java/lang/Object", name := "<init>", desc := "()V" } : Jvm.MethodName) object_method_1_code (1 : Nat) (Option.none : Option Jvm.ClassFile.FieldType), Jvm.Cond.code ({ cls := "java/util/ArrayList", name := "<init>", desc := "()V" } : Jvm.MethodName) jdk_38_method_2_code (1 : Nat) (Option.none : Option Jvm.ClassFile.FieldType), Jvm.Cond.code ({ cls := "java/util/AbstractList", name := "<init>", desc := "()V" } : Jvm.MethodName) jdk_39_method_1_code (1 : Nat) (Option.none : Option Jvm.ClassFile.FieldType), Jvm.Cond.code ({ cls := "java/util/AbstractCollection", name := "<init>", desc := "()V" } : Jvm.MethodName) jdk_22_method_1_code (1 : Nat) (Option.none : Option Jvm.ClassFile.FieldType), Jvm.Cond.code ({ cls := "com/example/covering/covering/store/BatchKeyPinLaw", name := "add", desc := "(Lcom/example/covering/covering/store/Batch;[B[BZ)V" } : Jvm.MethodName) method_2_code (4 : Nat) (Option.none : Option Jvm.ClassFile.FieldType), Jvm.Cond.code ({ cls := "com/example/covering/covering/store/Batch", name := "delete", desc := "([B)Lcom/example/covering/covering/store/Batch;" } : Jvm.MethodName) prog_17_method_3_code (2 : Nat) (Option.some (Jvm.ClassFile.FieldType.object "com/example/covering/covering/store/Batch")), Jvm.Cond.code ({ cls := "java/util/ArrayList", name := "add", desc := "(Ljava/lang/Object;)Z" } : Jvm.MethodName) jdk_38_method_25_code (2 : Nat) (Option.some Jvm.ClassFile.FieldType.boolean), Jvm.Cond.code ({ cls := "java/util/ArrayList", name := "add", desc := "(Ljava/lang/Object;[Ljava/lang/Object;I)V" } : Jvm.MethodName) jdk_38_method_24_code (4 : Nat) (Option.none : Option Jvm.ClassFile.FieldType), Jvm.Cond.code ({ cls := "java/util/ArrayList", name := "grow", desc := "()[Ljava/lang/Object;" } : Jvm.MethodName) jdk_38_method_7_code (1 : Nat) (Option.some (Jvm.ClassFile.FieldType.array (Jvm.ClassFile.FieldType.object "java/lang/Object"))), Jvm.Cond.code ({ cls := "java/util/ArrayList", name := "grow", desc := "(I)[Ljava/lang/Object;" } : Jvm.MethodName) jdk_38_method_6_code (4 : Nat) (Option.some (Jvm.ClassFile.FieldType.array (Jvm.ClassFile.FieldType.object "java/lang/Object"))), Jvm.Cond.code ({ cls := "java/lang/Math", name := "max", desc := "(II)I" } : Jvm.MethodName) jdk_29_method_65_code (2 : Nat) (Option.some Jvm.ClassFile.FieldType.int), Jvm.Cond.code ({ cls := "com/example/covering/covering/store/Batch", name := "put", desc := "([B[B)Lcom/example/covering/covering/store/Batch;" } : Jvm.MethodName) prog_17_method_2_code (3 : Nat) (Option.some (Jvm.ClassFile.FieldType.object "com/example/covering/covering/store/Batch")), Jvm.Cond.code ({ cls := "com/example/covering/covering/store/Batch", name := "key", desc := "(I)[B" } : Jvm.MethodName) prog_17_method_5_code (2 : Nat) (Option.some (Jvm.ClassFile.FieldType.array Jvm.ClassFile.FieldType.byte)), Jvm.Cond.code ({ cls := "java/util/ArrayList", name := "get", desc := "(I)Ljava/lang/Object;" } : Jvm.MethodName) jdk_38_method_20_code (2 : Nat) (Option.some (Jvm.ClassFile.FieldType.object "java/lang/Object")), Jvm.Cond.code ({ cls := "java/util/Objects", name := "checkIndex", desc := "(II)I" } : Jvm.MethodName) jdk_31_method_17_code (2 : Nat) (Option.some Jvm.ClassFile.FieldType.int), Jvm.Cond.code ({ cls := "jdk/internal/util/Preconditions", name := "checkIndex", desc := "(IILjava/util/function/BiFunction;)I" } : Jvm.MethodName) jdk_41_method_11_code (3 : Nat) (Option.some Jvm.ClassFile.FieldType.int), Jvm.Cond.code ({ cls := "java/util/ArrayList", name := "elementData", desc := "(I)Ljava/lang/Object;" } : Jvm.MethodName) jdk_38_method_18_code (2 : Nat) (Option.some (Jvm.ClassFile.FieldType.object "java/lang/Object"))]
set_option maxRecDepth 65536 in
theorem codes_eq : words1.filter isCode = codes1 := rfl
theorem w_codes : ∀ c ∈ words1.filter isCode, c.before args0 about1 = true := by
  rw [codes_eq]
  intro c hc
  simp only [codes1, List.mem_cons, List.not_mem_nil, or_false] at hc
  rcases hc with rfl | rfl | rfl | rfl | rfl | rfl | rfl | rfl | rfl | rfl | rfl | rfl | rfl | rfl | rfl | rfl | rfl | rfl | rfl
  · exact w_c0
  · exact w_c1
  · exact w_c2
  · exact w_c3
  · exact w_c4
  · exact w_c5
  · exact w_c6
  · exact w_c7
  · exact w_c8
  · exact w_c9
  · exact w_c10
  · exact w_c11
  · exact w_c12
  · exact w_c13
  · exact w_c14
  · exact w_c15
  · exact w_c16
  · exact w_c17
  · exact w_c18
set_option maxRecDepth 65536 in
theorem w_t1 : (words1.take 24).all (fun c => isCode c || c.before args0 about1) = true := by decide +kernel
set_option maxRecDepth 65536 in
theorem w_t2 : ((words1.drop 24).take 24).all (fun c => isCode c || c.before args0 about1) = true := by decide +kernel
set_option maxRecDepth 65536 in
theorem w_t3 : (((words1.drop 24).drop 24).take 24).all (fun c => isCode c || c.before args0 about1) = true := by decide +kernel
set_option maxRecDepth 65536 in
theorem w_t4 : ((((words1.drop 24).drop 24).drop 24).take 24).all (fun c => isCode c || c.before args0 about1) = true := by decide +kernel
set_option maxRecDepth 65536 in
theorem w_t5 : (((((words1.drop 24).drop 24).drop 24).drop 24).take 24).all (fun c => isCode c || c.before args0 about1) = true := by decide +kernel
set_option maxRecDepth 65536 in
theorem w_t6 : (((((words1.drop 24).drop 24).drop 24).drop 24).drop 24).all (fun c => isCode c || c.before args0 about1) = true := by decide +kernel
theorem w_tables : (allAtoms (Jvm.Cond.code x code maxLocals ret :: tables_1)).before args0 about1 = true := by
  rw [allAtoms_all]
  show words1.all (fun c => c.before args0 about1) = true
  refine all_split ?_ w_codes
  rw [← List.take_append_drop 24 words1, List.all_append, w_t1, ← List.take_append_drop 24 (words1.drop 24), List.all_append, w_t2, ← List.take_append_drop 24 ((words1.drop 24).drop 24), List.all_append, w_t3, ← List.take_append_drop 24 (((words1.drop 24).drop 24).drop 24), List.all_append, w_t4, ← List.take_append_drop 24 ((((words1.drop 24).drop 24).drop 24).drop 24), List.all_append, w_t5, w_t6]
  rfl
set_option maxRecDepth 65536 in
theorem w_rest : rest_1_c.before args0 about1 = true := by decide +kernel
set_option maxRecDepth 65536 in
theorem w_case : (Jvm.Cond.and given_1 narrow_1).before args0 about1 = true := by decide +kernel
theorem w_applies : (headSpec (Jvm.Cond.code x code maxLocals ret :: tables_1) room_1).applies x e0.platform about1 = true :=
  (Spec.applies_iff w_frames).mpr ⟨w_running, w_runnable, w_alone, w_named, w_hears, w_ripe, w_room, w_tables⟩
theorem atStart : AtStart classFile x code maxLocals ret World_1 tables_1 room_1 Calls_1 rest_1 Pre_1 launch0 p0 e0 about1 theMethod args0 below0 :=
  ⟨lists_1, trivial, launch0.admits_env _ _ _, launch0.least_env, fairChoices_fair.cas, fairChoices_fair.clock, w_frames, w_args, w_heap, w_applies, trivial, w_rest, w_case⟩
end start1
theorem witness_1 : WitnessClaimed_1 := ⟨start1.p0, start1.e0, start1.about1, start1.theMethod, start1.args0, start1.below0, start1.atStart⟩
end Jvm.Pilot.@@N@@

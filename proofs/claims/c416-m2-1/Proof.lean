import JvmDerived
import JvmDerived.Pilot.@@N@@Statement
import JvmDerived.Pilot.@@N@@Code
set_option linter.unusedVariables false
set_option linter.unusedSimpArgs false
namespace Jvm.Pilot.@@N@@
open Jvm Jvm.ClassFile Sem Op Lib Jvm.Free Jvm.Stand Jvm.LawKit Jvm.RoadKit Bundle Jvm.Pilot.@@N@@.Jvm.D
def Go (p : Program) (e : Env) (below : List Frame) (s : State) (Q : Option Value → Heap → List Loc → Prop) (C S : Nat) (V : State) : Prop :=
  ∃ (U : State) (o : Outcome), Steps p.tables e below V U ∧ U.status = .running ∧ Ended U below o ∧ ∃ v L, o = .returned v ∧ Q v U.heap L ∧ FrameEnd s o U L C S
def Ga (p : Program) (e : Env) (below : List Frame) (s : State) (Q : Option Value → Heap → List Loc → Prop) (C S : Nat) (T : State) (m : MethodId) (pc : Nat) (Ls : Array Slot) (st : List Value) : Prop :=
  Go p e below s Q C S (T.setTop (mkF m pc Ls st))
abbrev Ct (l : Launch) (Z : State) (y : MethodName) (bytes : ByteArray) (maxL : Nat) (ret : Option FieldType) (ws : List Jvm.Cond) (rm : Room) (as' : Array Value) (h0 : Heap) (Q : Option Value → Heap → List Loc → Prop) : Prop :=
  MetFree l y (head1 (Jvm.Cond.code y bytes maxL ret :: ws) rm) (fun a U => a = as' ∧ Z.Warmed39 U.vm ∧ U.heap = h0) (fun _ _ _ _ _ => True) (fun _ U o U' => ∃ v L, o = .returned v ∧ Q v U'.heap L ∧ FrameEnd U o U' L rm.cells rm.slots)
section GoKit
variable {p : Program} {l : Launch} {e : Env} {R : Room} {s : State} {m : MethodId} {args : Array Value} {below : List Frame} {meth : Method} {c : Code} {T T' : State} {locs : List Loc} {cells slots : Nat} {Q : Option Value → Heap → List Loc → Prop} {C S : Nat} {Z : State} {a0 : Array Value} {h : Heap} {pc q pc' : Nat} {Ls Ls' : Array Slot} {st st' : List Value} {own : String}
theorem Ga.stp (k : ∀ t, Steps p.tables e below (T'.setTop (mkF m pc' Ls' st')) t → Steps p.tables e below (T.setTop (mkF m pc Ls st)) t) (g : Ga p e below s Q C S T' m pc' Ls' st') : Ga p e below s Q C S T m pc Ls st := by
  obtain ⟨U, o, h, r⟩ := g
  exact ⟨U, o, k _ h, r⟩
theorem own_body {y : MethodName} {bytes : ByteArray} {maxL : Nat} {ret : Option FieldType} {ws : List Jvm.Cond} {rm : Room} {h0 : Heap} {as' : Array Value} (hpl : plainFor y = true) (hef : ∀ m, entryFrame m as' maxL = mkF m 0 Ls [])
    (body : ∀ (p : Program) (e : Env) (s : State) (m : MethodId) (below : List Frame) (meth : Method) (c : Code) (T : State), p.tables.exec = Jvm.exec → c.code = bytes → c.maxLocals = maxL → Z.Warmed39 s.vm → s.vm.findClass y.cls = some m.cls → meth.name = y.name → meth.sig.returnType = ret → meth.locks = false →
      Stand p l e rm s m as' below meth c T [] 0 0 → T.heap = h0 → Ga p e below s Q rm.cells rm.slots T m 0 Ls []) : Ct l Z y bytes maxL ret ws rm as' h0 Q := by
  refine MetFree.of_bodySF hpl hisR ?_
  intro p e s m args below meth c s₁ Bd hml0 hP hK
  obtain ⟨rfl, hZ, hh⟩ := hP
  have X0 : Stand p l e rm s m args below meth c s₁ [] 0 0 := Stand.of_body Bd
  have e0 : s₁.heap = h0 := by rw [← hh, Bd.state]; rfl
  obtain ⟨U, o, g1, g2⟩ := body p e s m below meth c s₁ Bd.exec Bd.bytes hml0 hZ (findClass_of_methodNamed Bd.named) (name_of_methodNamed Bd.named Bd.method).1 Bd.returns (BodyLoose.notSynchronized Bd) X0 e0
  exact ⟨U, o, castTop (hef m) g1, g2⟩
theorem Ga.out (X : Stand p l e R s m args below meth c T locs cells slots) {v : Option Value} (hlk : meth.locks = false) (hv : meth.sig.returnType = none → v = none) (hc : cells ≤ C) (hs : slots ≤ S) (hq : Q v T.heap locs)
    (k : ∀ fs, (∀ (f : JFrame) (acts : List Action), f.method = m → f.locked = none → f.entered = [] → (doReturn e (T.setTop f) acts v).1 = T.setFrames fs) → Steps p.tables e below (T.setTop (mkF m pc Ls st)) (T.setFrames fs)) : Ga p e below s Q C S T m pc Ls st := by
  obtain ⟨fs, hr, hrun, hended, hW, hsame⟩ := X.leave (v := v) hv hlk
  exact ⟨_, _, k fs hr, hrun, hended, _, _, rfl, hq, ⟨_, rfl⟩, hW, hsame.mono hc hs⟩
theorem g_iload (X : Stand p l e R s m args below meth c T locs cells slots) (hx : p.tables.exec = Jvm.exec) {k : Nat} {v : Int32} (hd : decode c.code pc = .ok (.iload k, 2)) (hp : pc + 2 = q) (hl : Ls[k]? = some (.val (.int v))) (g : Ga p e below s Q C S T m q Ls (.int v :: st)) : Ga p e below s Q C S T m pc Ls st := by
  subst hp
  exact Ga.stp (fun _ k => XS.iload X.here hx rfl hd hl k) g
theorem g_lloadN (X : Stand p l e R s m args below meth c T locs cells slots) (hx : p.tables.exec = Jvm.exec) {k : Fin 4} {v : Int64} (hd : decode c.code pc = .ok (.lload_n k, 1)) (hp : pc + 1 = q) (hl : Ls[k.val]? = some (.val (.long v))) (g : Ga p e below s Q C S T m q Ls (.long v :: st)) : Ga p e below s Q C S T m pc Ls st := by
  subst hp
  exact Ga.stp (fun _ k => XS.lloadN X.here hx rfl hd hl k) g
theorem g_lload (X : Stand p l e R s m args below meth c T locs cells slots) (hx : p.tables.exec = Jvm.exec) {k : Nat} {v : Int64} (hd : decode c.code pc = .ok (.lload k, 2)) (hp : pc + 2 = q) (hl : Ls[k]? = some (.val (.long v))) (g : Ga p e below s Q C S T m q Ls (.long v :: st)) : Ga p e below s Q C S T m pc Ls st := by
  subst hp
  exact Ga.stp (fun _ k => XS.lload X.here hx rfl hd hl k) g
theorem g_aloadN (X : Stand p l e R s m args below meth c T locs cells slots) (hx : p.tables.exec = Jvm.exec) {k : Fin 4} {v : Value} (hd : decode c.code pc = .ok (.aload_n k, 1)) (hp : pc + 1 = q) (hl : Ls[k.val]? = some (.val v)) (hv : v.isRef = true) (g : Ga p e below s Q C S T m q Ls (v :: st)) : Ga p e below s Q C S T m pc Ls st := by
  subst hp
  exact Ga.stp (fun _ k => XS.aloadN X.here hx rfl hd hl hv k) g
theorem g_aload (X : Stand p l e R s m args below meth c T locs cells slots) (hx : p.tables.exec = Jvm.exec) {k : Nat} {v : Value} (hd : decode c.code pc = .ok (.aload k, 2)) (hp : pc + 2 = q) (hl : Ls[k]? = some (.val v)) (hv : v.isRef = true) (g : Ga p e below s Q C S T m q Ls (v :: st)) : Ga p e below s Q C S T m pc Ls st := by
  subst hp
  exact Ga.stp (fun _ k => XS.aload X.here hx rfl hd hl hv k) g
theorem g_lstore (X : Stand p l e R s m args below meth c T locs cells slots) (hx : p.tables.exec = Jvm.exec) {k : Nat} {x : Int64} (hd : decode c.code pc = .ok (.lstore k, 2)) (hp : pc + 2 = q) (hl : storeLocals Ls k (.long x) = some Ls') (g : Ga p e below s Q C S T m q Ls' st) : Ga p e below s Q C S T m pc Ls (.long x :: st) := by
  subst hp
  exact Ga.stp (fun _ k => XS.lstore X.here hx rfl hd rfl hl k) g
theorem g_astore (X : Stand p l e R s m args below meth c T locs cells slots) (hx : p.tables.exec = Jvm.exec) {k : Nat} {x : Value} (hd : decode c.code pc = .ok (.astore k, 2)) (hp : pc + 2 = q) (hv : x.isRef = true) (hl : storeLocals Ls k x = some Ls') (g : Ga p e below s Q C S T m q Ls' st) : Ga p e below s Q C S T m pc Ls (x :: st) := by
  subst hp
  exact Ga.stp (fun _ k => XS.astore X.here hx rfl hd rfl hv hl k) g
theorem g_iconst (X : Stand p l e R s m args below meth c T locs cells slots) (hx : p.tables.exec = Jvm.exec) {i : Int} {r : Int32} (hd : decode c.code pc = .ok (.iconst i, 1)) (hp : pc + 1 = q) (hr : Int32.ofInt i = r) (g : Ga p e below s Q C S T m q Ls (.int r :: st)) : Ga p e below s Q C S T m pc Ls st := by
  subst hp hr
  exact Ga.stp (fun _ k => XS.iconst X.here hx rfl hd k) g
theorem g_lconst (X : Stand p l e R s m args below meth c T locs cells slots) (hx : p.tables.exec = Jvm.exec) {k : Fin 2} {r : Int64} (hd : decode c.code pc = .ok (.lconst k, 1)) (hp : pc + 1 = q) (hr : Int64.ofNat k = r) (g : Ga p e below s Q C S T m q Ls (.long r :: st)) : Ga p e below s Q C S T m pc Ls st := by
  subst hp hr
  exact Ga.stp (fun _ k => XS.lconst X.here hx rfl hd k) g
theorem g_iand (X : Stand p l e R s m args below meth c T locs cells slots) (hx : p.tables.exec = Jvm.exec) {x y r : Int32} (hd : decode c.code pc = .ok (.iand, 1)) (hp : pc + 1 = q) (hr : x &&& y = r) (g : Ga p e below s Q C S T m q Ls (.int r :: st)) : Ga p e below s Q C S T m pc Ls (.int y :: .int x :: st) := by
  subst hp hr
  exact Ga.stp (fun _ k => XS.iand X.here hx rfl hd rfl k) g
theorem g_ladd (X : Stand p l e R s m args below meth c T locs cells slots) (hx : p.tables.exec = Jvm.exec) {x y r : Int64} (hd : decode c.code pc = .ok (.ladd, 1)) (hp : pc + 1 = q) (hr : x + y = r) (g : Ga p e below s Q C S T m q Ls (.long r :: st)) : Ga p e below s Q C S T m pc Ls (.long y :: .long x :: st) := by
  subst hp hr
  exact Ga.stp (fun _ k => XS.ladd X.here hx rfl hd rfl k) g
theorem g_lsub (X : Stand p l e R s m args below meth c T locs cells slots) (hx : p.tables.exec = Jvm.exec) {x y r : Int64} (hd : decode c.code pc = .ok (.lsub, 1)) (hp : pc + 1 = q) (hr : x - y = r) (g : Ga p e below s Q C S T m q Ls (.long r :: st)) : Ga p e below s Q C S T m pc Ls (.long y :: .long x :: st) := by
  subst hp hr
  exact Ga.stp (fun _ k => XS.lsub X.here hx rfl hd rfl k) g
theorem g_land (X : Stand p l e R s m args below meth c T locs cells slots) (hx : p.tables.exec = Jvm.exec) {x y r : Int64} (hd : decode c.code pc = .ok (.land, 1)) (hp : pc + 1 = q) (hr : x &&& y = r) (g : Ga p e below s Q C S T m q Ls (.long r :: st)) : Ga p e below s Q C S T m pc Ls (.long y :: .long x :: st) := by
  subst hp hr
  exact Ga.stp (fun _ k => XS.land X.here hx rfl hd rfl k) g
theorem g_ldiv (X : Stand p l e R s m args below meth c T locs cells slots) (hx : p.tables.exec = Jvm.exec) {x y r : Int64} (hd : decode c.code pc = .ok (.ldiv, 1)) (hp : pc + 1 = q) (hy : y ≠ 0) (hr : x / y = r) (g : Ga p e below s Q C S T m q Ls (.long r :: st)) : Ga p e below s Q C S T m pc Ls (.long y :: .long x :: st) := by
  subst hp hr
  exact Ga.stp (fun _ k => XS.ldiv X.here hx rfl hd rfl hy k) g
theorem g_lrem (X : Stand p l e R s m args below meth c T locs cells slots) (hx : p.tables.exec = Jvm.exec) {x y r : Int64} (hd : decode c.code pc = .ok (.lrem, 1)) (hp : pc + 1 = q) (hy : y ≠ 0) (hr : x % y = r) (g : Ga p e below s Q C S T m q Ls (.long r :: st)) : Ga p e below s Q C S T m pc Ls (.long y :: .long x :: st) := by
  subst hp hr
  rw [← lrem_mod] at g
  exact Ga.stp (fun _ k => XS.lrem X.here hx rfl hd rfl hy k) g
theorem g_i2l (X : Stand p l e R s m args below meth c T locs cells slots) (hx : p.tables.exec = Jvm.exec) {x : Int32} {r : Int64} (hd : decode c.code pc = .ok (.i2l, 1)) (hp : pc + 1 = q) (hr : x.toInt64 = r) (g : Ga p e below s Q C S T m q Ls (.long r :: st)) : Ga p e below s Q C S T m pc Ls (.int x :: st) := by
  subst hp hr
  exact Ga.stp (fun _ k => XS.i2l X.here hx rfl hd rfl k) g
theorem g_lcmp (X : Stand p l e R s m args below meth c T locs cells slots) (hx : p.tables.exec = Jvm.exec) {x y : Int64} (hd : decode c.code pc = .ok (.lcmp, 1)) (hp : pc + 1 = q)  (g : Ga p e below s Q C S T m q Ls (.int (XT.cmpL x y) :: st)) : Ga p e below s Q C S T m pc Ls (.long y :: .long x :: st) := by
  subst hp
  exact Ga.stp (fun _ k => XT.lcmp X.here hx rfl hd rfl k) g
theorem g_dup (X : Stand p l e R s m args below meth c T locs cells slots) (hx : p.tables.exec = Jvm.exec) {x : Value} (hd : decode c.code pc = .ok (.dup, 1)) (hp : pc + 1 = q) (hc : x.category = 1) (g : Ga p e below s Q C S T m q Ls (x :: x :: st)) : Ga p e below s Q C S T m pc Ls (x :: st) := by
  subst hp
  exact Ga.stp (fun _ k => XS.dup X.here hx rfl hd rfl hc k) g
theorem g_goto (X : Stand p l e R s m args below meth c T locs cells slots) (hx : p.tables.exec = Jvm.exec) {o : Int} (hd : decode c.code pc = .ok (.goto o, 3)) (ho : 0 ≤ (pc : Int) + o) (hp : ((pc : Int) + o).toNat = q) (g : Ga p e below s Q C S T m q Ls st) : Ga p e below s Q C S T m pc Ls st :=
  Ga.stp (fun _ k => XS.goto X.here hx rfl rfl hd ho hp k) g
theorem g_ifY (X : Stand p l e R s m args below meth c T locs cells slots) (hx : p.tables.exec = Jvm.exec) {cd : ClassFile.Cond} {x : Int32} {o : Int} (hd : decode c.code pc = .ok (.ifCond cd o, 3)) (hc : ifCond.holds cd x = true) (ho : 0 ≤ (pc : Int) + o) (hp : ((pc : Int) + o).toNat = q) (g : Ga p e below s Q C S T m q Ls st) : Ga p e below s Q C S T m pc Ls (.int x :: st) :=
  Ga.stp (fun _ k => XS.ifYes X.here hx rfl rfl hd rfl hc ho hp k) g
theorem g_ifN (X : Stand p l e R s m args below meth c T locs cells slots) (hx : p.tables.exec = Jvm.exec) {cd : ClassFile.Cond} {x : Int32} {o : Int} (hd : decode c.code pc = .ok (.ifCond cd o, 3)) (hp : pc + 3 = q) (hc : ifCond.holds cd x = false) (g : Ga p e below s Q C S T m q Ls st) : Ga p e below s Q C S T m pc Ls (.int x :: st) := by
  subst hp
  exact Ga.stp (fun _ k => XS.ifNo X.here hx rfl hd rfl hc k) g
theorem g_retN (X : Stand p l e R s m args below meth c T locs cells slots) (hx : p.tables.exec = Jvm.exec) {z r : Int32} {t : FieldType} (hret : meth.sig.returnType = some t) (ht : t = .boolean ∨ t = .byte ∨ t = .char ∨ t = .short) (hlk : meth.locks = false) (hd : decode c.code pc = .ok (.ireturn, 1)) (hr : nar t z = r) (hc : cells ≤ C) (hs : slots ≤ S) (hq : Q (some (.int r)) T.heap locs) : Ga p e below s Q C S T m pc Ls (.int z :: st) := by
  subst hr
  exact Ga.out X hlk (fun h => by rw [hret] at h; cases h) hc hs hq fun fs hr => retN X hx hret ht hd hr
theorem g_retJ (X : Stand p l e R s m args below meth c T locs cells slots) (hx : p.tables.exec = Jvm.exec) {z : Int64} (hret : meth.sig.returnType = some .long) (hlk : meth.locks = false) (hd : decode c.code pc = .ok (.lreturn, 1)) (hc : cells ≤ C) (hs : slots ≤ S) (hq : Q (some (.long z)) T.heap locs) : Ga p e below s Q C S T m pc Ls (.long z :: st) :=
  Ga.out X hlk (fun h => by rw [hret] at h; cases h) hc hs hq fun fs hr => retOut X hx hret rfl (Or.inr (Or.inl ⟨rfl, rfl, z, rfl⟩)) hd hr
theorem g_ret (X : Stand p l e R s m args below meth c T locs cells slots) (hx : p.tables.exec = Jvm.exec) (hret : meth.sig.returnType = none) (hlk : meth.locks = false) (hd : decode c.code pc = .ok (.return_, 1)) (hc : cells ≤ C) (hs : slots ≤ S) (hq : Q none T.heap locs) : Ga p e below s Q C S T m pc Ls [] :=
  Ga.out X hlk (fun _ => rfl) hc hs hq fun fs hr => X.returnOut hx hret hd hr
theorem g_ldc2 (X : Stand p l e R s m args below meth c T locs cells slots) (hx : p.tables.exec = Jvm.exec) (hZ : Z.Warmed39 s.vm) (hown : s.vm.findClass own = some m.cls) {index : Nat} {v : Int64} (w : (Cond.constantLong own index v).before a0 Z = true) (hd : decode c.code pc = .ok (.ldc2_w index, 3)) (hp : pc + 3 = q) (g : Ga p e below s Q C S T m q Ls (.long v :: st)) : Ga p e below s Q C S T m pc Ls st := by
  subst hp
  exact Ga.stp (fun t k => X.ldc2Long hx hown (mvT hZ w) (g := mkF m pc Ls st) rfl hd t k) g
theorem g_new (X : Stand p l e R s m args below meth c T locs cells slots) (hx : p.tables.exec = Jvm.exec) (hZ : Z.Warmed39 s.vm) (hown : s.vm.findClass own = some m.cls) {K : String} {index n : Nat} (w : (Cond.classLink own index K).before a0 Z = true) (wi : (Cond.instantiable K n).before a0 Z = true) (wz : (Cond.initialized K).before a0 Z = true) (eT : T.heap = h)
    (hd : decode c.code pc = .ok (.new index, 3)) (hp : pc + 3 = q) (hc : cells + 1 ≤ R.cells) (hl : slots + n ≤ R.slots)
    (k : ∀ T' h' b, Stand p l e R s m args below meth c T' locs (cells + 1) (slots + n) → T'.heap = h' → b = h.size → Ext h h' → Exa Z h' b K → (∀ {O nm d : String} {ty : FieldType}, Laid Z a0 K O nm d → parseFieldDescriptor d = some ty → Fld Z h' b O nm d (defaultValue ty)) → Ga p e below s Q C S T' m q Ls (.ref b :: st)) : Ga p e below s Q C S T m pc Ls st := by
  subst hp
  obtain ⟨T', h', X', e', E', A', D', -, sx⟩ := newO X hx hZ hown w wi wz eT (g := mkF m pc Ls st) rfl hd hc hl
  exact Ga.stp sx (k T' h' _ X' e' rfl E' A' D')
theorem g_getF (X : Stand p l e R s m args below meth c T locs cells slots) (hx : p.tables.exec = Jvm.exec) (hZ : Z.Warmed39 s.vm) (hown : s.vm.findClass own = some m.cls) {R0 O n d host : String} {index : Nat} (w : (Cond.fieldLink own index R0 n d).before a0 Z = true ∨ (Cond.fieldLinkNest own index R0 n d host).before a0 Z = true) (via : Via Z R0 O n d) (eT : T.heap = h) {a : Addr} {v : Value} (F : Fld Z h a O n d v)
    (hd : decode c.code pc = .ok (.getfield index, 3)) (hp : pc + 3 = q) (k : ∀ T', Stand p l e R s m args below meth c T' locs cells slots → T'.heap = h → Ga p e below s Q C S T' m q Ls (v :: st)) : Ga p e below s Q C S T m pc Ls (.ref a :: st) := by
  subst hp
  obtain ⟨T', X', e', sx⟩ := getF X hx hZ hown w via eT F (g := mkF m pc Ls (.ref a :: st)) rfl rfl hd
  exact Ga.stp sx (k T' X' e')
theorem g_putF (X : Stand p l e R s m args below meth c T locs cells slots) (hx : p.tables.exec = Jvm.exec) (hZ : Z.Warmed39 s.vm) (hown : s.vm.findClass own = some m.cls) {R0 O n d host K : String} {index kk : Nat} {ty : FieldType} (w : (Cond.fieldLink own index R0 n d).before a0 Z = true ∨ (Cond.fieldLinkNest own index R0 n d host).before a0 Z = true) (via : Via Z R0 O n d) (eT : T.heap = h) {a : Addr} {v old : Value} (F : Fld Z h a O n d old) (E : Exa Z h a K)
    (L : (Cond.lays K O n d).before a0 Z = true ∨ ((Cond.laysFinal K O n d).before a0 Z = true ∧ own = O ∧ meth.name = "<init>")) (wi : (Cond.instantiable K kk).before a0 Z = true) (hty : parseFieldDescriptor d = some ty) (hn : narrow ty v = v) (hf : fits ty v = true)
    (hd : decode c.code pc = .ok (.putfield index, 3)) (hp : pc + 3 = q) (k : ∀ T' h', Stand p l e R s m args below meth c T' (locs ++ [⟨a, Jvm.RoadKit.slotOf Z O n d⟩]) cells slots → T'.heap = h' → Wr h h' a (Jvm.RoadKit.slotOf Z O n d) v → Fld Z h' a O n d v → Ga p e below s Q C S T' m q Ls st) : Ga p e below s Q C S T m pc Ls (v :: .ref a :: st) := by
  subst hp
  obtain ⟨T', h', X', e', W', sx⟩ := putF X hx hZ hown w via eT F E L wi hty hn hf (g := mkF m pc Ls (v :: .ref a :: st)) rfl rfl hd
  exact Ga.stp sx (k T' h' X' e' W' (F.same W'))
theorem g_initO (X : Stand p l e R s m args below meth c T locs cells slots) (hx : p.tables.exec = Jvm.exec) (hZ : Z.Warmed39 s.vm) (hown : s.vm.findClass own = some m.cls) {idx : Nat} (w1 : (Cond.methodLink own idx Lib.objectInit).before a0 Z = true) (w2 : (Cond.instanceMethod Lib.objectInit).before a0 Z = true) (w3 : (Cond.code Lib.objectInit ⟨#[0xb1]⟩ 1 none).before a0 Z = true) (eT : T.heap = h) (hsz : Ls.size = c.maxLocals) {a : Addr}
    (hd : decode c.code pc = .ok (.invokespecial idx, 3)) (hp : pc + 3 = q) (hf : 1 ≤ R.frames) {W : Nat} (hW : (st.map fun v => v.category).sum ≤ W) (hl : W + 12 ≤ R.locals) (k : ∀ T', Stand p l e R s m args below meth c T' locs cells slots → T'.heap = h → Ga p e below s Q C S T' m q Ls st) : Ga p e below s Q C S T m pc Ls (.ref a :: st) := by
  subst hp
  obtain ⟨T', X', e', sx⟩ := initO X hx hZ hown w1 w2 w3 eT (g := mkF m pc Ls (.ref a :: st)) rfl hsz rfl hd hf (W := W) (by show 2 * 0 + _ ≤ _; omega) hl
  exact Ga.stp sx (k T' X' e')
theorem g_special (X : Stand p l e R s m args below meth c T locs cells slots) (hx : p.tables.exec = Jvm.exec) (hZ : Z.Warmed39 s.vm) (hown : s.vm.findClass own = some m.cls) {index : Nat} {y : MethodName} {bytes : ByteArray} {maxL : Nat} {rm : Room} {as' : Array Value} {Q' : Option Value → Heap → List Loc → Prop} (hy1 : y.name = "<init>") (w1 : (Cond.methodLink own index y).before a0 Z = true) (w2 : (Cond.instanceMethod y).before a0 Z = true) (w3 : (Cond.initialized y.cls).before a0 Z = true) (w4 : (Cond.code y bytes maxL none).before a0 Z = true) (hy : y.cls ≠ "java/lang/invoke/MethodHandle" ∧ y.cls ≠ "java/lang/invoke/VarHandle") {a : Addr}
    (hM : Ct l Z y bytes maxL none [] rm as' h Q') (hsz : Ls.size = c.maxLocals) (eT : T.heap = h) (argsL : List Value) {rest : List Value} (has : as' = (.ref a :: argsL).toArray) (hst : st = argsL.reverse ++ .ref a :: rest) {W : Nat} (hW : (rest.map fun v => v.category).sum ≤ W) (hf : rm.frames + 1 ≤ R.frames) (hl : W + (maxL + 11) + rm.locals ≤ R.locals) (hcl : cells + rm.cells ≤ R.cells) (hsl : slots + rm.slots ≤ R.slots) (hlen : ∀ sig, parseMethodDescriptor y.desc = some sig → argsL.length = sig.parameters.length) (hd : decode c.code pc = .ok (.invokespecial index, 3)) (hp : pc + 3 = q) (k : ∀ v T' L, Stand p l e R s m args below meth c T' (locs ++ L) (cells + rm.cells) (slots + rm.slots) → Q' v T'.heap L → Ga p e below s Q C S T' m q Ls (v.toList ++ rest)) : Ga p e below s Q C S T m pc Ls st := by
  subst hp has hst
  obtain ⟨_, _, ⟨T', L', k', n'⟩, -, X', ⟨Lc, hQ', l1, y1, z1⟩, sx⟩ := X.specialBack hx (y := y) hy1 hown (mvT hZ w1) (mvT hZ w2) (mvT hZ w4) hy (backOf (W := W) hM hZ w4 w3 hf hl) (g := mkF m pc Ls (argsL.reverse ++ .ref a :: rest)) rfl hsz (Steps.refl _) (a := a) (argsL := argsL) (rest := rest) hlen rfl (by show 2 * 0 + _ ≤ _; omega) hd (fun _ _ => ⟨rfl, eT, hcl, hsl⟩)
  dsimp only [Pt.U, Pt.locs, Pt.cells, Pt.slots] at X' l1 y1 z1 sx hQ'
  subst l1 y1 z1
  exact Ga.stp (fun _ kk => sx.trans kk) (k _ T' Lc X' hQ')
theorem g_virtual (X : Stand p l e R s m args below meth c T locs cells slots) (hx : p.tables.exec = Jvm.exec) (hZ : Z.Warmed39 s.vm) (hown : s.vm.findClass own = some m.cls) {index : Nat} {y z : MethodName} {K : String} {ret : Option FieldType} {bytes : ByteArray} {maxL : Nat} {rm : Room} {as' : Array Value} {Q' : Option Value → Heap → List Loc → Prop} (w1 : (Cond.methodLink own index y).before a0 Z = true) (w2 : (Cond.declares y).before a0 Z = true) (nf : NotFace s y) (w3 : (Cond.selects K y z).before a0 Z = true) (w4 : (Cond.instanceMethod z).before a0 Z = true) (w5 : (Cond.initialized z.cls).before a0 Z = true) (w6 : (Cond.code z bytes maxL ret).before a0 Z = true) (hy : y.cls ≠ "java/lang/invoke/MethodHandle" ∧ y.cls ≠ "java/lang/invoke/VarHandle") {a : Addr} (E : Exa Z h a K)
    (hM : Ct l Z z bytes maxL ret [] rm as' h Q') (hsz : Ls.size = c.maxLocals) (eT : T.heap = h) (argsL : List Value) {rest : List Value} (has : as' = (.ref a :: argsL).toArray) (hst : st = argsL.reverse ++ .ref a :: rest) {W : Nat} (hW : (rest.map fun v => v.category).sum ≤ W) (hf : rm.frames + 1 ≤ R.frames) (hl : W + (maxL + 11) + rm.locals ≤ R.locals) (hcl : cells + rm.cells ≤ R.cells) (hsl : slots + rm.slots ≤ R.slots) (hlen : ∀ sig, parseMethodDescriptor y.desc = some sig → argsL.length = sig.parameters.length) (hd : decode c.code pc = .ok (.invokevirtual index, 3)) (hp : pc + 3 = q) (k : ∀ v T' L, Stand p l e R s m args below meth c T' (locs ++ L) (cells + rm.cells) (slots + rm.slots) → Q' v T'.heap L → Ga p e below s Q C S T' m q Ls (v.toList ++ rest)) : Ga p e below s Q C S T m pc Ls st := by
  subst hp has hst
  obtain ⟨cq, kq, qa, qb, qc⟩ := isOf hZ eT E
  obtain ⟨_, _, ⟨T', L', k', n'⟩, -, X', ⟨Lc, hQ', l1, y1, z1⟩, sx⟩ := X.virtualBack hx (y := y) (z := z) hown (mvT hZ w1) (mvT hZ w2) nf (mvT hZ w3) (mvT hZ w4) hy (backOf (W := W) hM hZ w6 w5 hf hl) qa qc (g := mkF m pc Ls (argsL.reverse ++ .ref a :: rest)) rfl hsz (Steps.refl _) (argsL := argsL) (rest := rest) hlen rfl (by show 2 * 0 + _ ≤ _; omega) hd (fun _ _ => ⟨rfl, eT, hcl, hsl⟩)
  dsimp only [Pt.U, Pt.locs, Pt.cells, Pt.slots] at X' l1 y1 z1 sx hQ'
  subst l1 y1 z1
  exact Ga.stp (fun _ kk => sx.trans kk) (k _ T' Lc X' hQ')
variable {ka : ClassId} {ty : FieldType} {z j : Int32} {vs : List Value} {dv : Value} {a : Addr}
end GoKit

theorem own_irrI (x : Int32) : ¬ x < x := Int32.lt_irrefl
theorem own_irrJ (x : Int64) : ¬ x < x := Int64.lt_irrefl
theorem own_narc (x : Int32) : nar .char (x &&& (255 : Int32)) = (x &&& (255 : Int32)) := i2c_mask x
theorem own_nar (x : Int32) : nar .byte x = x.toInt8.toInt32 := rfl
theorem own_bb (x : Int32) : x.toInt8.toInt32.toInt8.toInt32 = x.toInt8.toInt32 := by simp
theorem own_nb {h : Heap} {b b' y : Addr} (hb : b' = b ∨ h.size ≤ b') (lt : y < h.size) (ne : y ≠ b) : y ≠ b' := hb.elim (fun q => q ▸ ne) (fun q => Nat.ne_of_lt (Nat.lt_of_lt_of_le lt q))
theorem own_ng {h : Heap} {b b' : Addr} {n0 : Nat} (hb : b' = b ∨ h.size ≤ b') (g : n0 ≤ b) (Z : n0 ≤ h.size) : n0 ≤ b' := hb.elim (fun q => q ▸ g) (fun q => Nat.le_trans Z q)
theorem own_insK {Z : State} {h h' : Heap} {a : Addr} {C : String} {ws : List Addr} (F : Ins Z h a C true) (K : Keep h h' ws) : Ins Z h' a C true := by
  obtain ⟨cell, cT, h1, h2, h3⟩ := F
  obtain ⟨c', q1, q2, q3, -⟩ := K.2.2 _ _ h1
  exact ⟨c', cT, q1, h2, by rw [q2, q3]; exact h3⟩
theorem d_prog_62_m_1_0 : decode prog_62_method_1_code 0 = .ok (.aload_n 0, 1) := by decide +kernel
theorem d_prog_62_m_1_1 : decode prog_62_method_1_code 1 = .ok (.invokespecial 1, 3) := by decide +kernel
theorem d_prog_62_m_1_4 : decode prog_62_method_1_code 4 = .ok (.lload_n 1, 1) := by decide +kernel
theorem d_prog_62_m_1_5 : decode prog_62_method_1_code 5 = .ok (.lconst 0, 1) := by decide +kernel
theorem d_prog_62_m_1_6 : decode prog_62_method_1_code 6 = .ok (.lcmp, 1) := by decide +kernel
theorem d_prog_62_m_1_7 : decode prog_62_method_1_code 7 = .ok (.ifCond .le 9, 3) := by decide +kernel
theorem d_prog_62_m_1_10 : decode prog_62_method_1_code 10 = .ok (.lload_n 3, 1) := by decide +kernel
theorem d_prog_62_m_1_11 : decode prog_62_method_1_code 11 = .ok (.lconst 0, 1) := by decide +kernel
theorem d_prog_62_m_1_12 : decode prog_62_method_1_code 12 = .ok (.lcmp, 1) := by decide +kernel
theorem d_prog_62_m_1_13 : decode prog_62_method_1_code 13 = .ok (.ifCond .gt 18, 3) := by decide +kernel
theorem d_prog_62_m_1_31 : decode prog_62_method_1_code 31 = .ok (.aload_n 0, 1) := by decide +kernel
theorem d_prog_62_m_1_32 : decode prog_62_method_1_code 32 = .ok (.lload_n 1, 1) := by decide +kernel
theorem d_prog_62_m_1_33 : decode prog_62_method_1_code 33 = .ok (.putfield 16, 3) := by decide +kernel
theorem d_prog_62_m_1_36 : decode prog_62_method_1_code 36 = .ok (.aload_n 0, 1) := by decide +kernel
theorem d_prog_62_m_1_37 : decode prog_62_method_1_code 37 = .ok (.lload_n 3, 1) := by decide +kernel
theorem d_prog_62_m_1_38 : decode prog_62_method_1_code 38 = .ok (.putfield 22, 3) := by decide +kernel
theorem d_prog_62_m_1_41 : decode prog_62_method_1_code 41 = .ok (.return_, 1) := by decide +kernel
theorem d_prog_62_m_8_0 : decode prog_62_method_8_code 0 = .ok (.aload_n 0, 1) := by decide +kernel
theorem d_prog_62_m_8_1 : decode prog_62_method_8_code 1 = .ok (.getfield 16, 3) := by decide +kernel
theorem d_prog_62_m_8_4 : decode prog_62_method_8_code 4 = .ok (.aload_n 0, 1) := by decide +kernel
theorem d_prog_62_m_8_5 : decode prog_62_method_8_code 5 = .ok (.getfield 22, 3) := by decide +kernel
theorem d_prog_62_m_8_8 : decode prog_62_method_8_code 8 = .ok (.ldiv, 1) := by decide +kernel
theorem d_prog_62_m_8_9 : decode prog_62_method_8_code 9 = .ok (.aload_n 0, 1) := by decide +kernel
theorem d_prog_62_m_8_10 : decode prog_62_method_8_code 10 = .ok (.getfield 16, 3) := by decide +kernel
theorem d_prog_62_m_8_13 : decode prog_62_method_8_code 13 = .ok (.aload_n 0, 1) := by decide +kernel
theorem d_prog_62_m_8_14 : decode prog_62_method_8_code 14 = .ok (.getfield 22, 3) := by decide +kernel
theorem d_prog_62_m_8_17 : decode prog_62_method_8_code 17 = .ok (.lrem, 1) := by decide +kernel
theorem d_prog_62_m_8_18 : decode prog_62_method_8_code 18 = .ok (.lconst 0, 1) := by decide +kernel
theorem d_prog_62_m_8_19 : decode prog_62_method_8_code 19 = .ok (.lcmp, 1) := by decide +kernel
theorem d_prog_62_m_8_20 : decode prog_62_method_8_code 20 = .ok (.ifCond .ne 7, 3) := by decide +kernel
theorem d_prog_62_m_8_23 : decode prog_62_method_8_code 23 = .ok (.iconst 0, 1) := by decide +kernel
theorem d_prog_62_m_8_24 : decode prog_62_method_8_code 24 = .ok (.goto 4, 3) := by decide +kernel
theorem d_prog_62_m_8_28 : decode prog_62_method_8_code 28 = .ok (.i2l, 1) := by decide +kernel
theorem d_prog_62_m_8_29 : decode prog_62_method_8_code 29 = .ok (.ladd, 1) := by decide +kernel
theorem d_prog_62_m_8_30 : decode prog_62_method_8_code 30 = .ok (.lreturn, 1) := by decide +kernel
theorem d_prog_62_m_8_27 : decode prog_62_method_8_code 27 = .ok (.iconst 1, 1) := by decide +kernel
theorem pd_0 : parseMethodDescriptor "(JJ)V" = some ⟨[.long, .long], none⟩ := by decide +kernel
theorem pd_1 : parseMethodDescriptor "()J" = some ⟨[], some .long⟩ := by decide +kernel
theorem pn_0 : plainName "com/example/ely/ely/probe/CpuQuota" = true := by first | (simp [plainName, overriddenIn]; done) | decide +kernel
theorem pn_1 : plainName "com/example/ely/ely/probe/CpuQuotaCpusRoundedUpPinLaw" = true := by first | (simp [plainName, overriddenIn]; done) | decide +kernel
theorem own_toInt0 : (0 : Int64).toInt = 0 := rfl
theorem own_lt64 {x y : Int64} : x < y ↔ x.toInt < y.toInt := Int64.lt_iff_toInt_lt
theorem own_eq64 {x y : Int64} : x = y ↔ x.toInt = y.toInt := Int64.toInt_inj.symm
theorem own_m {x v : Int64} (h : (x &&& (9223372036854775807 : Int64)) = v) (h0 : ¬ v = 0) : (0 : Int64) < v := by
  have e := c_maskL x 9223372036854775807 63 (by decide) (by decide)
  rw [h] at e
  rw [own_eq64] at h0; rw [own_lt64]
  rw [own_toInt0] at *
  omega
theorem own_7 {x v : Int64} (h : ((x &&& (7 : Int64)) + (1 : Int64)) = v) : (0 : Int64) < v := by
  have e := c_maskL x 7 3 (by decide) (by decide)
  have e2 := XT.add64 (x := x &&& 7) (y := 1) (by unfold XT.fits64; rw [e]; simp; omega)
  rw [h, e] at e2
  rw [own_lt64, own_toInt0]; simp at e2; omega
theorem own_63 {x v : Int64} (h : ((x &&& (63 : Int64)) + (1 : Int64)) = v) : (0 : Int64) < v := by
  have e := c_maskL x 63 6 (by decide) (by decide)
  have e2 := XT.add64 (x := x &&& 63) (y := 1) (by unfold XT.fits64; rw [e]; simp; omega)
  rw [h, e] at e2
  rw [own_lt64, own_toInt0]; simp at e2; omega
theorem own_rem {q p : Int64} (hq : (0 : Int64) < q) : (q % p).toInt = q.toInt % p.toInt := by
  rw [own_lt64, own_toInt0] at hq
  rw [Int64.toInt_mod]; exact Int.tmod_eq_emod_of_nonneg (by omega)
theorem own_d {q p d : Int64} (hq : (0 : Int64) < q) (hp : (0 : Int64) < p) (h : (q - (q % p)) = d) (h0 : ¬ d = 0) : (0 : Int64) < d := by
  have e := own_rem (p := p) hq
  rw [own_lt64, own_toInt0] at *
  have hm := Int.emod_nonneg q.toInt (b := p.toInt) (by omega)
  have hm2 := Int.emod_lt_of_pos q.toInt hp
  have hm3 : q.toInt % p.toInt ≤ q.toInt := by
    have a := Int.mul_ediv_add_emod q.toInt p.toInt
    have b := Int.mul_nonneg (Int.le_of_lt hp) (Int.ediv_nonneg (Int.le_of_lt hq) (Int.le_of_lt hp))
    omega
  have r := rng64 q
  have e2 := XT.sub64 (x := q) (y := q % p) (by unfold XT.fits64; rw [e]; omega)
  rw [h, e] at e2
  rw [own_eq64, own_toInt0] at h0
  omega
theorem own_ne0 {p : Int64} (hp : (0 : Int64) < p) : p ≠ 0 := fun h => by subst h; exact absurd hp (by decide)
theorem own_fin {q p r w : Int64} (hq : (0 : Int64) < q) (hp : (0 : Int64) < p) (h1 : r = (q / p) + (if q % p = 0 then (0 : Int64) else (1 : Int64))) (h2 : (((q - (1 : Int64)) / p) + (1 : Int64)) = w) : r = w ∧ ¬ r < (1 : Int64) := by
  have er := own_rem (p := p) hq
  have hpm : p ≠ -1 := fun h => by subst h; exact absurd hp (by decide)
  rw [own_lt64, own_toInt0] at hq hp
  have rq := rng64 q
  have rp := rng64 p
  have ed := (c_ldiv q p p.toInt rfl hpm).1 (by omega)
  have e1 : (1 : Int64).toInt = 1 := rfl
  have es : (q - 1).toInt = q.toInt - 1 := by
    have := XT.sub64 (x := q) (y := 1) (by unfold XT.fits64; rw [e1]; omega)
    rw [this, e1]
  have ed2 := (c_ldiv (q - 1) p p.toInt rfl hpm).1 (by rw [es]; omega)
  rw [es] at ed2
  generalize q.toInt = Q at *
  generalize p.toInt = P at *
  have hm := Int.emod_nonneg Q (b := P) (by omega)
  have hm2 := Int.emod_lt_of_pos Q hp
  have hdm := Int.mul_ediv_add_emod Q P
  have hk0 : 0 ≤ Q / P := Int.ediv_nonneg (by omega) (by omega)
  have hkQ : Q / P ≤ Q := Int.ediv_le_self P (by omega)
  by_cases hz : q % p = 0
  · rw [if_pos hz] at h1
    rw [own_eq64, own_toInt0, er] at hz
    have e3 : (Q - 1) / P = Q / P - 1 := by
      have : Q - 1 = (P - 1) + P * (Q / P - 1) := by rw [Int.mul_sub]; omega
      rw [this, Int.add_mul_ediv_left _ _ (by omega : P ≠ 0), Int.ediv_eq_zero_of_lt (by omega) (by omega)]
      have : (P - 1 + P * (Q / P - 1)) / P = Q / P - 1 := by rw [Int.add_mul_ediv_left _ _ (by omega : P ≠ 0), Int.ediv_eq_zero_of_lt (by omega) (by omega)]; omega
      omega
    have h1' : r.toInt = Q / P := by rw [h1]; simp [ed]
    have hk1 : 1 ≤ Q / P := by
      by_cases q0 : Q / P = 0
      · rw [q0] at hdm; simp at hdm; omega
      · omega
    have h2' : w.toInt = Q / P := by
      rw [← h2, XT.add64 (by unfold XT.fits64; rw [ed2, e1]; omega), ed2, e1]; omega
    refine ⟨own_eq64.mpr (by rw [h1', h2']), ?_⟩
    rw [own_lt64, h1', e1]; omega
  · rw [if_neg hz] at h1
    rw [own_eq64, own_toInt0, er] at hz
    have e3 : (Q - 1) / P = Q / P := by
      have : Q - 1 = (Q % P - 1) + P * (Q / P) := by omega
      rw [this, Int.add_mul_ediv_left _ _ (by omega : P ≠ 0), Int.ediv_eq_zero_of_lt (by omega) (by omega)]
      have : (Q % P - 1 + P * (Q / P)) / P = Q / P := by rw [Int.add_mul_ediv_left _ _ (by omega : P ≠ 0), Int.ediv_eq_zero_of_lt (by omega) (by omega)]; omega
      omega
    have hk2 : Q / P ≤ Q - 1 := by
      rw [← e3]; exact Int.ediv_le_self P (by omega)
    have h1' : r.toInt = Q / P + 1 := by
      rw [h1, XT.add64 (by unfold XT.fits64; rw [ed, e1]; omega), ed, e1]
    have h2' : w.toInt = Q / P + 1 := by
      rw [← h2, XT.add64 (by unfold XT.fits64; rw [ed2, e1]; omega), ed2, e1]; omega
    refine ⟨own_eq64.mpr (by rw [h1', h2']), ?_⟩
    rw [own_lt64, h1', e1]; omega
def Q_ini (Z : State) (a : Addr) (x : Int64) (y : Int64) (h0 : Heap) (n0 : Nat) (v : Option Value) (h : Heap) (L : List Loc) : Prop := v = none ∧ Fr n0 L ∧ Keep h0 h [a] ∧ Exa Z h a "com/example/ely/ely/probe/CpuQuota" ∧ Fld Z h a "com/example/ely/ely/probe/CpuQuota" "quotaMicros" "J" (.long x) ∧ Fld Z h a "com/example/ely/ely/probe/CpuQuota" "periodMicros" "J" (.long y)
theorem ef_ini (m : MethodId) (x0 : Addr) (x1 : Int64) (x2 : Int64) : entryFrame m #[(.ref x0), (.long x1), (.long x2)] 5 = mkF m 0 #[.val (.ref x0), .val (.long x1), .second, .val (.long x2), .second] [] := by first | (simp [entryFrame, mkF, argsToLocals, Value.category]; done) | rfl
set_option maxRecDepth 65536 in
set_option maxHeartbeats 40000000 in
theorem rm_ini (l : Launch) (Z : State) (a0 : Array Value) (hw : ∀ d ∈ tables_1, d.before a0 Z = true) (a : Addr) (x : Int64) (y : Int64) (h0 : Heap) (n0 : Nat) (Z0 : n0 ≤ h0.size) (F_quotaMicros_a : Fld Z h0 a "com/example/ely/ely/probe/CpuQuota" "quotaMicros" "J" (.long (0 : Int64))) (F_periodMicros_a : Fld Z h0 a "com/example/ely/ely/probe/CpuQuota" "periodMicros" "J" (.long (0 : Int64))) (E_a : Exa Z h0 a "com/example/ely/ely/probe/CpuQuota") (g_a : n0 ≤ a) (hpx : (0 : Int64) < x) (hpy : (0 : Int64) < y) :
    Ct l Z (⟨"com/example/ely/ely/probe/CpuQuota", "<init>", "(JJ)V"⟩ : MethodName) prog_62_method_1_code 5 none [] ({ frames := 1, cells := 0, slots := 0, locals := 12 } : Room) #[(.ref a), (.long x), (.long y)] h0 (Q_ini Z a x y h0 n0) := by
  refine own_body (plainFor_of_name pn_0) (fun m => ef_ini m a x y) ?_
  intro p e s m below meth c T0 hx hby hml hZ hown hnm hret hlk X0 e0
  have N0 := Fr.nil n0
  refine g_aloadN X0 hx (hb hby d_prog_62_m_1_0) rfl rfl rfl ?_
  refine g_initO X0 hx hZ hown (hw _ (List.mem_of_getElem? (i := 7) rfl)) (hw _ (List.mem_of_getElem? (i := 8) rfl)) (hw _ (List.mem_of_getElem? (i := 9) rfl)) e0 (by rw [hml]; rfl) (hb hby d_prog_62_m_1_1) rfl (by decide) (W := 0) (Nat.le_of_eq rfl) (by decide) fun T1 X1 e1 => ?_
  refine g_lloadN X1 hx (hb hby d_prog_62_m_1_4) rfl rfl ?_
  refine g_lconst X1 hx (r := (0 : Int64)) (hb hby d_prog_62_m_1_5) rfl rfl ?_
  refine g_lcmp X1 hx (hb hby d_prog_62_m_1_6) rfl  ?_
  have hc7 : (0 : Int64) < x := hpx
  refine g_ifN X1 hx (hb hby d_prog_62_m_1_7) rfl (XT.ll_le_f hc7) ?_
  refine g_lloadN X1 hx (hb hby d_prog_62_m_1_10) rfl rfl ?_
  refine g_lconst X1 hx (r := (0 : Int64)) (hb hby d_prog_62_m_1_11) rfl rfl ?_
  refine g_lcmp X1 hx (hb hby d_prog_62_m_1_12) rfl  ?_
  have hc13 : (0 : Int64) < y := hpy
  refine g_ifY X1 hx (q := 31) (hb hby d_prog_62_m_1_13) (XT.ll_gt_t hc13) (by decide) (by decide) ?_
  refine g_aloadN X1 hx (hb hby d_prog_62_m_1_31) rfl rfl rfl ?_
  refine g_lloadN X1 hx (hb hby d_prog_62_m_1_32) rfl rfl ?_
  refine g_putF X1 hx hZ hown (host := "") (Or.inl (hw _ (List.mem_of_getElem? (i := 10) rfl))) Via.refl e1 F_quotaMicros_a E_a (Or.inr ⟨(hw _ (List.mem_of_getElem? (i := 11) rfl)), rfl, hnm⟩) (hw _ (List.mem_of_getElem? (i := 2) rfl)) (ty := .long) (by decide) rfl rfl (hb hby d_prog_62_m_1_33) rfl fun T2 h2 X2 e2 W2 F2 => ?_
  have kk2 : Keep h0 h2 [a] := (Keep.refl h0 [a]).wr W2 (Or.inl (by simp))
  have N2 := Fr.snoc X2 N0 g_a
  have Z2 : n0 ≤ h2.size := by rw [W2.size]; exact Z0
  refine g_aloadN X2 hx (hb hby d_prog_62_m_1_36) rfl rfl rfl ?_
  refine g_lloadN X2 hx (hb hby d_prog_62_m_1_37) rfl rfl ?_
  have f4 : Fld Z h2 a "com/example/ely/ely/probe/CpuQuota" "periodMicros" "J" (.long (0 : Int64)) := (F_periodMicros_a.other W2 (Or.inr (slot_ne (Or.inr (hw _ (List.mem_of_getElem? (i := 13) rfl))) (Or.inr (hw _ (List.mem_of_getElem? (i := 11) rfl))) (by decide) (t := .long) (t' := .long) (by decide) (by decide))))
  have f5 : Exa Z h2 a "com/example/ely/ely/probe/CpuQuota" := (E_a.wr W2)
  refine g_putF X2 hx hZ hown (host := "") (Or.inl (hw _ (List.mem_of_getElem? (i := 12) rfl))) Via.refl e2 f4 f5 (Or.inr ⟨(hw _ (List.mem_of_getElem? (i := 13) rfl)), rfl, hnm⟩) (hw _ (List.mem_of_getElem? (i := 2) rfl)) (ty := .long) (by decide) rfl rfl (hb hby d_prog_62_m_1_38) rfl fun T3 h3 X3 e3 W3 F3 => ?_
  have kk3 : Keep h0 h3 [a] := kk2.wr W3 (Or.inl (by simp))
  have N3 := Fr.snoc X3 N2 g_a
  have Z3 : n0 ≤ h3.size := by rw [W3.size]; exact Z2
  have f6 : Exa Z h3 a "com/example/ely/ely/probe/CpuQuota" := (f5.wr W3)
  have f7 : Fld Z h3 a "com/example/ely/ely/probe/CpuQuota" "quotaMicros" "J" (.long x) := (F2.other W3 (Or.inr (slot_ne (Or.inr (hw _ (List.mem_of_getElem? (i := 11) rfl))) (Or.inr (hw _ (List.mem_of_getElem? (i := 13) rfl))) (by decide) (t := .long) (t' := .long) (by decide) (by decide))))
  exact g_ret X3 hx hret hlk (hb hby d_prog_62_m_1_41) (by decide) (by decide) (by rw [e3]; exact ⟨rfl, N3, kk3, f6, f7, F3⟩)
def Q_up (Z : State) (a : Addr) (x : Int64) (y : Int64) (h0 : Heap) (n0 : Nat) (v : Option Value) (h : Heap) (L : List Loc) : Prop := ∃ (r : Int64), v = some (.long r) ∧ Fr n0 L ∧ h = h0 ∧ (r = (x / y) + (if x % y = 0 then (0 : Int64) else (1 : Int64)))
theorem ef_up (m : MethodId) (x0 : Addr) : entryFrame m #[(.ref x0)] 1 = mkF m 0 #[.val (.ref x0)] [] := by first | (simp [entryFrame, mkF, argsToLocals, Value.category]; done) | rfl
set_option maxRecDepth 65536 in
set_option maxHeartbeats 40000000 in
theorem rm_up (l : Launch) (Z : State) (a0 : Array Value) (hw : ∀ d ∈ tables_1, d.before a0 Z = true) (a : Addr) (x : Int64) (y : Int64) (h0 : Heap) (n0 : Nat) (Z0 : n0 ≤ h0.size) (F_quotaMicros_a : Fld Z h0 a "com/example/ely/ely/probe/CpuQuota" "quotaMicros" "J" (.long x)) (F_periodMicros_a : Fld Z h0 a "com/example/ely/ely/probe/CpuQuota" "periodMicros" "J" (.long y)) (hpy : y ≠ 0) :
    Ct l Z (⟨"com/example/ely/ely/probe/CpuQuota", "cpusRoundedUp", "()J"⟩ : MethodName) prog_62_method_8_code 1 (some .long) [] ({ frames := 0, cells := 0, slots := 0, locals := 0 } : Room) #[(.ref a)] h0 (Q_up Z a x y h0 n0) := by
  refine own_body (plainFor_of_name pn_0) (fun m => ef_up m a) ?_
  intro p e s m below meth c T0 hx hby hml hZ hown hnm hret hlk X0 e0
  have N0 := Fr.nil n0
  refine g_aloadN X0 hx (hb hby d_prog_62_m_8_0) rfl rfl rfl ?_
  refine g_getF X0 hx hZ hown (host := "") (Or.inl (hw _ (List.mem_of_getElem? (i := 10) rfl))) Via.refl e0 F_quotaMicros_a (hb hby d_prog_62_m_8_1) rfl fun T1 X1 e1 => ?_
  refine g_aloadN X1 hx (hb hby d_prog_62_m_8_4) rfl rfl rfl ?_
  refine g_getF X1 hx hZ hown (host := "") (Or.inl (hw _ (List.mem_of_getElem? (i := 12) rfl))) Via.refl e1 F_periodMicros_a (hb hby d_prog_62_m_8_5) rfl fun T2 X2 e2 => ?_
  refine g_ldiv X2 hx (hb hby d_prog_62_m_8_8) rfl hpy rfl ?_
  refine g_aloadN X2 hx (hb hby d_prog_62_m_8_9) rfl rfl rfl ?_
  refine g_getF X2 hx hZ hown (host := "") (Or.inl (hw _ (List.mem_of_getElem? (i := 10) rfl))) Via.refl e2 F_quotaMicros_a (hb hby d_prog_62_m_8_10) rfl fun T3 X3 e3 => ?_
  refine g_aloadN X3 hx (hb hby d_prog_62_m_8_13) rfl rfl rfl ?_
  refine g_getF X3 hx hZ hown (host := "") (Or.inl (hw _ (List.mem_of_getElem? (i := 12) rfl))) Via.refl e3 F_periodMicros_a (hb hby d_prog_62_m_8_14) rfl fun T4 X4 e4 => ?_
  refine g_lrem X4 hx (hb hby d_prog_62_m_8_17) rfl hpy rfl ?_
  refine g_lconst X4 hx (r := (0 : Int64)) (hb hby d_prog_62_m_8_18) rfl rfl ?_
  refine g_lcmp X4 hx (hb hby d_prog_62_m_8_19) rfl  ?_
  by_cases hc20 : (x % y) = (0 : Int64)
  · skip
    refine g_ifN X4 hx (hb hby d_prog_62_m_8_20) rfl (XT.ll_ne_f hc20) ?_
    refine g_iconst X4 hx (r := (0 : Int32)) (hb hby d_prog_62_m_8_23) rfl rfl ?_
    refine g_goto X4 hx (q := 28) (hb hby d_prog_62_m_8_24) (by decide) (by decide) ?_
    refine g_i2l X4 hx (r := (0 : Int64)) (hb hby d_prog_62_m_8_28) rfl rfl ?_
    refine g_ladd X4 hx (hb hby d_prog_62_m_8_29) rfl rfl ?_
    exact g_retJ X4 hx hret hlk (hb hby d_prog_62_m_8_30) (by decide) (by decide) (by rw [e4]; exact ⟨((x / y) + (0 : Int64)), rfl, N0, rfl, (by rw [if_pos hc20])⟩)
  · skip
    refine g_ifY X4 hx (q := 27) (hb hby d_prog_62_m_8_20) (XT.ll_ne_t hc20) (by decide) (by decide) ?_
    refine g_iconst X4 hx (r := (1 : Int32)) (hb hby d_prog_62_m_8_27) rfl rfl ?_
    refine g_i2l X4 hx (r := (1 : Int64)) (hb hby d_prog_62_m_8_28) rfl rfl ?_
    refine g_ladd X4 hx (hb hby d_prog_62_m_8_29) rfl rfl ?_
    exact g_retJ X4 hx hret hlk (hb hby d_prog_62_m_8_30) (by decide) (by decide) (by rw [e4]; exact ⟨((x / y) + (1 : Int64)), rfl, N0, rfl, (by rw [if_neg hc20])⟩)
def Q_law (Z : State) (p0 : Int64) (p1 : Int64) (p2 : Int32) (h0 : Heap) (n0 : Nat) (v : Option Value) (h : Heap) (L : List Loc) : Prop := v = some (.int 1) ∧ Fr n0 L
theorem ef_law (m : MethodId) (x0 : Int64) (x1 : Int64) (x2 : Int32) : entryFrame m #[(.long x0), (.long x1), (.int x2)] maxLocals = mkF m 0 #[.val (.long x0), .second, .val (.long x1), .second, .val (.int x2), .unset, .unset, .unset, .unset, .unset, .unset, .unset, .unset, .unset] [] := by first | (simp [entryFrame, mkF, argsToLocals, Value.category, maxLocals]; done) | rfl
set_option maxRecDepth 65536 in
set_option maxHeartbeats 40000000 in
theorem rm_law (l : Launch) (Z : State) (a0 : Array Value) (hw : ∀ d ∈ tables_1, d.before a0 Z = true) (ws : List Jvm.Cond) (p0 : Int64) (p1 : Int64) (p2 : Int32) (h0 : Heap) (n0 : Nat) (Z0 : n0 ≤ h0.size) :
    Ct l Z x code maxLocals ret ws room_1 #[(.long p0), (.long p1), (.int p2)] h0 (Q_law Z p0 p1 p2 h0 n0) := by
  refine own_body (plainFor_of_name pn_1) (fun m => ef_law m p0 p1 p2) ?_
  intro p e s m below meth c T0 hx hby hml hZ hown hnm hret hlk X0 e0
  have N0 := Fr.nil n0
  refine g_lloadN X0 hx (hb hby at_0) rfl rfl ?_
  refine g_ldc2 X0 hx hZ hown (hw _ (List.mem_of_getElem? (i := 0) rfl)) (hb hby at_1) rfl ?_
  obtain ⟨v4, hv4⟩ : ∃ r, (p1 &&& (9223372036854775807 : Int64)) = r := ⟨_, rfl⟩
  refine g_land X0 hx (hb hby at_4) rfl hv4 ?_
  refine g_lstore X0 hx (Ls' := #[.val (.long p0), .second, .val (.long p1), .second, .val (.int p2), .val (.long v4), .second, .unset, .unset, .unset, .unset, .unset, .unset, .unset]) (hb hby at_5) rfl rfl ?_
  refine g_lload X0 hx (hb hby at_7) rfl rfl ?_
  refine g_lconst X0 hx (r := (0 : Int64)) (hb hby at_9) rfl rfl ?_
  refine g_lcmp X0 hx (hb hby at_10) rfl  ?_
  by_cases hc11 : v4 = (0 : Int64)
  · skip
    refine g_ifN X0 hx (hb hby at_11) rfl (XT.ll_ne_f hc11) ?_
    refine g_lconst X0 hx (r := (1 : Int64)) (hb hby at_14) rfl rfl ?_
    refine g_lstore X0 hx (Ls' := #[.val (.long p0), .second, .val (.long p1), .second, .val (.int p2), .val (.long (1 : Int64)), .second, .unset, .unset, .unset, .unset, .unset, .unset, .unset]) (hb hby at_15) rfl rfl ?_
    have hp17 : (0 : Int64) < (1 : Int64) := (by decide)
    refine g_lloadN X0 hx (hb hby at_17) rfl rfl ?_
    refine g_ldc2 X0 hx hZ hown (hw _ (List.mem_of_getElem? (i := 0) rfl)) (hb hby at_18) rfl ?_
    obtain ⟨v21, hv21⟩ : ∃ r, (p0 &&& (9223372036854775807 : Int64)) = r := ⟨_, rfl⟩
    refine g_land X0 hx (hb hby at_21) rfl hv21 ?_
    refine g_lstore X0 hx (Ls' := #[.val (.long p0), .second, .val (.long p1), .second, .val (.int p2), .val (.long (1 : Int64)), .second, .val (.long v21), .second, .unset, .unset, .unset, .unset, .unset]) (hb hby at_22) rfl rfl ?_
    refine g_lload X0 hx (hb hby at_24) rfl rfl ?_
    refine g_lconst X0 hx (r := (0 : Int64)) (hb hby at_26) rfl rfl ?_
    refine g_lcmp X0 hx (hb hby at_27) rfl  ?_
    by_cases hc28 : v21 = (0 : Int64)
    · skip
      refine g_ifN X0 hx (hb hby at_28) rfl (XT.ll_ne_f hc28) ?_
      refine g_lconst X0 hx (r := (1 : Int64)) (hb hby at_31) rfl rfl ?_
      refine g_lstore X0 hx (Ls' := #[.val (.long p0), .second, .val (.long p1), .second, .val (.int p2), .val (.long (1 : Int64)), .second, .val (.long (1 : Int64)), .second, .unset, .unset, .unset, .unset, .unset]) (hb hby at_32) rfl rfl ?_
      have hp34 : (0 : Int64) < (1 : Int64) := (by decide)
      refine g_iload X0 hx (hb hby at_34) rfl rfl ?_
      refine g_iconst X0 hx (r := (2 : Int32)) (hb hby at_36) rfl rfl ?_
      refine g_iand X0 hx (hb hby at_37) rfl rfl ?_
      by_cases hc38 : (p2 &&& (2 : Int32)) = (0 : Int32)
      · skip
        refine g_ifY X0 hx (q := 61) (hb hby at_38) (XT.i0_eq_t hc38) (by decide) (by decide) ?_
        refine g_iload X0 hx (hb hby at_61) rfl rfl ?_
        refine g_iconst X0 hx (r := (1 : Int32)) (hb hby at_63) rfl rfl ?_
        refine g_iand X0 hx (hb hby at_64) rfl rfl ?_
        by_cases hc65 : (p2 &&& (1 : Int32)) = (0 : Int32)
        · skip
          refine g_ifY X0 hx (q := 94) (hb hby at_65) (XT.i0_eq_t hc65) (by decide) (by decide) ?_
          refine g_new X0 hx hZ hown (hw _ (List.mem_of_getElem? (i := 1) rfl)) (hw _ (List.mem_of_getElem? (i := 2) rfl)) (hw _ (List.mem_of_getElem? (i := 3) rfl)) e0 (hb hby at_94) rfl (by decide) (by decide) fun T1 h1 b1 X1 e1 q1 E1 A1 D1 => ?_
          have g_b1 : n0 ≤ b1 := Nat.le_trans Z0 (Nat.le_of_eq q1.symm)
          have Z1 : n0 ≤ h1.size := Nat.le_trans Z0 E1.1
          have F1_quotaMicros : Fld Z h1 b1 "com/example/ely/ely/probe/CpuQuota" "quotaMicros" "J" (.long (0 : Int64)) := D1 (Or.inr (hw _ (List.mem_of_getElem? (i := 11) rfl))) (ty := .long) (by decide)
          have F1_periodMicros : Fld Z h1 b1 "com/example/ely/ely/probe/CpuQuota" "periodMicros" "J" (.long (0 : Int64)) := D1 (Or.inr (hw _ (List.mem_of_getElem? (i := 13) rfl))) (ty := .long) (by decide)
          refine g_dup X1 hx (hb hby at_97) rfl rfl ?_
          refine g_lload X1 hx (hb hby at_98) rfl rfl ?_
          refine g_lload X1 hx (hb hby at_100) rfl rfl ?_
          refine g_special X1 hx hZ hown rfl (hw _ (List.mem_of_getElem? (i := 4) rfl)) (hw _ (List.mem_of_getElem? (i := 5) rfl)) (hw _ (List.mem_of_getElem? (i := 3) rfl)) (hw _ (List.mem_of_getElem? (i := 6) rfl)) (by decide) (a := b1) (rm_ini l Z a0 hw b1 (1 : Int64) (1 : Int64) h1 n0 Z1 F1_quotaMicros F1_periodMicros A1 g_b1 (by decide) (by decide)) (by rw [hml]; rfl) e1 [(.long (1 : Int64)), (.long (1 : Int64))] rfl rfl (W := 1) (Nat.le_of_eq rfl) (by decide) (by decide) (by decide) (by decide) (lenOf pd_0 rfl) (hb hby at_102) rfl fun v2 T2 L2 X2 hQ2 => ?_
          obtain ⟨rfl, Nq2, kc2, p2_0, p2_1, p2_2⟩ := hQ2
          have N2 := Fr.app N0 Nq2
          have Z2 : n0 ≤ T2.heap.size := Nat.le_trans Z1 kc2.1
          show Ga _ _ _ _ _ _ _ _ _ _ _ [(.ref b1)]
          refine g_astore X2 hx (Ls' := #[.val (.long p0), .second, .val (.long p1), .second, .val (.int p2), .val (.long (1 : Int64)), .second, .val (.long (1 : Int64)), .second, .val (.ref b1), .unset, .unset, .unset, .unset]) (hb hby at_105) rfl rfl rfl ?_
          refine g_aload X2 hx (hb hby at_107) rfl rfl rfl ?_
          refine g_virtual X2 hx hZ hown (hw _ (List.mem_of_getElem? (i := 14) rfl)) (hw _ (List.mem_of_getElem? (i := 15) rfl)) (notFace_of_selects (args := #[]) (mvT hZ (hw _ (List.mem_of_getElem? (i := 17) rfl)))) (hw _ (List.mem_of_getElem? (i := 17) rfl)) (hw _ (List.mem_of_getElem? (i := 16) rfl)) (hw _ (List.mem_of_getElem? (i := 3) rfl)) (hw _ (List.mem_of_getElem? (i := 18) rfl)) (by decide) (a := b1) p2_0 (rm_up l Z a0 hw b1 (1 : Int64) (1 : Int64) T2.heap n0 Z2 p2_1 p2_2 (own_ne0 (by decide))) (by rw [hml]; rfl) rfl [] rfl rfl (W := 0) (Nat.le_of_eq rfl) (by decide) (by decide) (by decide) (by decide) (lenOf pd_1 rfl) (hb hby at_109) rfl fun v3 T3 L3 X3 hQ3 => ?_
          obtain ⟨r_3, rfl, Nq3, eh3, p3_0⟩ := hQ3
          have N3 := Fr.app N2 Nq3
          have hr_3 := p3_0
          show Ga _ _ _ _ _ _ _ _ _ _ _ [(.long r_3)]
          refine g_lstore X3 hx (Ls' := #[.val (.long p0), .second, .val (.long p1), .second, .val (.int p2), .val (.long (1 : Int64)), .second, .val (.long (1 : Int64)), .second, .val (.ref b1), .val (.long r_3), .second, .unset, .unset]) (hb hby at_112) rfl rfl ?_
          refine g_lload X3 hx (hb hby at_114) rfl rfl ?_
          refine g_lconst X3 hx (r := (1 : Int64)) (hb hby at_116) rfl rfl ?_
          refine g_lsub X3 hx (r := (0 : Int64)) (hb hby at_117) rfl rfl ?_
          refine g_lload X3 hx (hb hby at_118) rfl rfl ?_
          refine g_ldiv X3 hx (r := (0 : Int64)) (hb hby at_120) rfl (by decide) rfl ?_
          refine g_lconst X3 hx (r := (1 : Int64)) (hb hby at_121) rfl rfl ?_
          refine g_ladd X3 hx (r := (1 : Int64)) (hb hby at_122) rfl rfl ?_
          refine g_lstore X3 hx (Ls' := #[.val (.long p0), .second, .val (.long p1), .second, .val (.int p2), .val (.long (1 : Int64)), .second, .val (.long (1 : Int64)), .second, .val (.ref b1), .val (.long r_3), .second, .val (.long (1 : Int64)), .second]) (hb hby at_123) rfl rfl ?_
          refine g_lload X3 hx (hb hby at_125) rfl rfl ?_
          refine g_lload X3 hx (hb hby at_127) rfl rfl ?_
          refine g_lcmp X3 hx (hb hby at_129) rfl  ?_
          have hc130 : r_3 = (1 : Int64) := (own_fin (q := (1 : Int64)) (p := (1 : Int64)) (w := (1 : Int64)) (by decide) (by decide) hr_3 (by decide)).1
          refine g_ifN X3 hx (hb hby at_130) rfl (XT.ll_ne_f hc130) ?_
          refine g_lload X3 hx (hb hby at_133) rfl rfl ?_
          refine g_lconst X3 hx (r := (1 : Int64)) (hb hby at_135) rfl rfl ?_
          refine g_lcmp X3 hx (hb hby at_136) rfl  ?_
          have hc137 : ¬ r_3 < (1 : Int64) := (own_fin (q := (1 : Int64)) (p := (1 : Int64)) (w := (1 : Int64)) (by decide) (by decide) hr_3 (by decide)).2
          refine g_ifN X3 hx (hb hby at_137) rfl (XT.ll_lt_f hc137) ?_
          refine g_iconst X3 hx (r := (1 : Int32)) (hb hby at_140) rfl rfl ?_
          refine g_goto X3 hx (q := 145) (hb hby at_141) (by decide) (by decide) ?_
          exact g_retN X3 hx (t := .boolean) (r := (1 : Int32)) hret (by simp) hlk (hb hby at_145) rfl (by decide) (by decide) (by rw [eh3]; exact ⟨rfl, N3⟩)
        · skip
          refine g_ifN X0 hx (hb hby at_65) rfl (XT.i0_eq_f hc65) ?_
          refine g_lload X0 hx (hb hby at_68) rfl rfl ?_
          refine g_lload X0 hx (hb hby at_70) rfl rfl ?_
          refine g_lload X0 hx (hb hby at_72) rfl rfl ?_
          refine g_lrem X0 hx (r := (0 : Int64)) (hb hby at_74) rfl (by decide) rfl ?_
          refine g_lsub X0 hx (r := (1 : Int64)) (hb hby at_75) rfl rfl ?_
          refine g_lstore X0 hx (Ls' := #[.val (.long p0), .second, .val (.long p1), .second, .val (.int p2), .val (.long (1 : Int64)), .second, .val (.long (1 : Int64)), .second, .val (.long (1 : Int64)), .second, .unset, .unset, .unset]) (hb hby at_76) rfl rfl ?_
          refine g_lload X0 hx (hb hby at_78) rfl rfl ?_
          refine g_lconst X0 hx (r := (0 : Int64)) (hb hby at_80) rfl rfl ?_
          refine g_lcmp X0 hx (hb hby at_81) rfl  ?_
          refine g_ifY X0 hx (q := 90) (hb hby at_82) (XT.ll_ne_t (by decide : ¬ (1 : Int64) = (0 : Int64))) (by decide) (by decide) ?_
          refine g_lload X0 hx (hb hby at_90) rfl rfl ?_
          refine g_lstore X0 hx (Ls' := #[.val (.long p0), .second, .val (.long p1), .second, .val (.int p2), .val (.long (1 : Int64)), .second, .val (.long (1 : Int64)), .second, .val (.long (1 : Int64)), .second, .unset, .unset, .unset]) (hb hby at_92) rfl rfl ?_
          refine g_new X0 hx hZ hown (hw _ (List.mem_of_getElem? (i := 1) rfl)) (hw _ (List.mem_of_getElem? (i := 2) rfl)) (hw _ (List.mem_of_getElem? (i := 3) rfl)) e0 (hb hby at_94) rfl (by decide) (by decide) fun T4 h4 b4 X4 e4 q4 E4 A4 D4 => ?_
          have g_b4 : n0 ≤ b4 := Nat.le_trans Z0 (Nat.le_of_eq q4.symm)
          have Z4 : n0 ≤ h4.size := Nat.le_trans Z0 E4.1
          have F4_quotaMicros : Fld Z h4 b4 "com/example/ely/ely/probe/CpuQuota" "quotaMicros" "J" (.long (0 : Int64)) := D4 (Or.inr (hw _ (List.mem_of_getElem? (i := 11) rfl))) (ty := .long) (by decide)
          have F4_periodMicros : Fld Z h4 b4 "com/example/ely/ely/probe/CpuQuota" "periodMicros" "J" (.long (0 : Int64)) := D4 (Or.inr (hw _ (List.mem_of_getElem? (i := 13) rfl))) (ty := .long) (by decide)
          refine g_dup X4 hx (hb hby at_97) rfl rfl ?_
          refine g_lload X4 hx (hb hby at_98) rfl rfl ?_
          refine g_lload X4 hx (hb hby at_100) rfl rfl ?_
          refine g_special X4 hx hZ hown rfl (hw _ (List.mem_of_getElem? (i := 4) rfl)) (hw _ (List.mem_of_getElem? (i := 5) rfl)) (hw _ (List.mem_of_getElem? (i := 3) rfl)) (hw _ (List.mem_of_getElem? (i := 6) rfl)) (by decide) (a := b4) (rm_ini l Z a0 hw b4 (1 : Int64) (1 : Int64) h4 n0 Z4 F4_quotaMicros F4_periodMicros A4 g_b4 (by decide) (by decide)) (by rw [hml]; rfl) e4 [(.long (1 : Int64)), (.long (1 : Int64))] rfl rfl (W := 1) (Nat.le_of_eq rfl) (by decide) (by decide) (by decide) (by decide) (lenOf pd_0 rfl) (hb hby at_102) rfl fun v5 T5 L5 X5 hQ5 => ?_
          obtain ⟨rfl, Nq5, kc5, p5_0, p5_1, p5_2⟩ := hQ5
          have N5 := Fr.app N0 Nq5
          have Z5 : n0 ≤ T5.heap.size := Nat.le_trans Z4 kc5.1
          show Ga _ _ _ _ _ _ _ _ _ _ _ [(.ref b4)]
          refine g_astore X5 hx (Ls' := #[.val (.long p0), .second, .val (.long p1), .second, .val (.int p2), .val (.long (1 : Int64)), .second, .val (.long (1 : Int64)), .second, .val (.ref b4), .unset, .unset, .unset, .unset]) (hb hby at_105) rfl rfl rfl ?_
          refine g_aload X5 hx (hb hby at_107) rfl rfl rfl ?_
          refine g_virtual X5 hx hZ hown (hw _ (List.mem_of_getElem? (i := 14) rfl)) (hw _ (List.mem_of_getElem? (i := 15) rfl)) (notFace_of_selects (args := #[]) (mvT hZ (hw _ (List.mem_of_getElem? (i := 17) rfl)))) (hw _ (List.mem_of_getElem? (i := 17) rfl)) (hw _ (List.mem_of_getElem? (i := 16) rfl)) (hw _ (List.mem_of_getElem? (i := 3) rfl)) (hw _ (List.mem_of_getElem? (i := 18) rfl)) (by decide) (a := b4) p5_0 (rm_up l Z a0 hw b4 (1 : Int64) (1 : Int64) T5.heap n0 Z5 p5_1 p5_2 (own_ne0 (by decide))) (by rw [hml]; rfl) rfl [] rfl rfl (W := 0) (Nat.le_of_eq rfl) (by decide) (by decide) (by decide) (by decide) (lenOf pd_1 rfl) (hb hby at_109) rfl fun v6 T6 L6 X6 hQ6 => ?_
          obtain ⟨r_6, rfl, Nq6, eh6, p6_0⟩ := hQ6
          have N6 := Fr.app N5 Nq6
          have hr_6 := p6_0
          show Ga _ _ _ _ _ _ _ _ _ _ _ [(.long r_6)]
          refine g_lstore X6 hx (Ls' := #[.val (.long p0), .second, .val (.long p1), .second, .val (.int p2), .val (.long (1 : Int64)), .second, .val (.long (1 : Int64)), .second, .val (.ref b4), .val (.long r_6), .second, .unset, .unset]) (hb hby at_112) rfl rfl ?_
          refine g_lload X6 hx (hb hby at_114) rfl rfl ?_
          refine g_lconst X6 hx (r := (1 : Int64)) (hb hby at_116) rfl rfl ?_
          refine g_lsub X6 hx (r := (0 : Int64)) (hb hby at_117) rfl rfl ?_
          refine g_lload X6 hx (hb hby at_118) rfl rfl ?_
          refine g_ldiv X6 hx (r := (0 : Int64)) (hb hby at_120) rfl (by decide) rfl ?_
          refine g_lconst X6 hx (r := (1 : Int64)) (hb hby at_121) rfl rfl ?_
          refine g_ladd X6 hx (r := (1 : Int64)) (hb hby at_122) rfl rfl ?_
          refine g_lstore X6 hx (Ls' := #[.val (.long p0), .second, .val (.long p1), .second, .val (.int p2), .val (.long (1 : Int64)), .second, .val (.long (1 : Int64)), .second, .val (.ref b4), .val (.long r_6), .second, .val (.long (1 : Int64)), .second]) (hb hby at_123) rfl rfl ?_
          refine g_lload X6 hx (hb hby at_125) rfl rfl ?_
          refine g_lload X6 hx (hb hby at_127) rfl rfl ?_
          refine g_lcmp X6 hx (hb hby at_129) rfl  ?_
          have hc130 : r_6 = (1 : Int64) := (own_fin (q := (1 : Int64)) (p := (1 : Int64)) (w := (1 : Int64)) (by decide) (by decide) hr_6 (by decide)).1
          refine g_ifN X6 hx (hb hby at_130) rfl (XT.ll_ne_f hc130) ?_
          refine g_lload X6 hx (hb hby at_133) rfl rfl ?_
          refine g_lconst X6 hx (r := (1 : Int64)) (hb hby at_135) rfl rfl ?_
          refine g_lcmp X6 hx (hb hby at_136) rfl  ?_
          have hc137 : ¬ r_6 < (1 : Int64) := (own_fin (q := (1 : Int64)) (p := (1 : Int64)) (w := (1 : Int64)) (by decide) (by decide) hr_6 (by decide)).2
          refine g_ifN X6 hx (hb hby at_137) rfl (XT.ll_lt_f hc137) ?_
          refine g_iconst X6 hx (r := (1 : Int32)) (hb hby at_140) rfl rfl ?_
          refine g_goto X6 hx (q := 145) (hb hby at_141) (by decide) (by decide) ?_
          exact g_retN X6 hx (t := .boolean) (r := (1 : Int32)) hret (by simp) hlk (hb hby at_145) rfl (by decide) (by decide) (by rw [eh6]; exact ⟨rfl, N6⟩)
      · skip
        refine g_ifN X0 hx (hb hby at_38) rfl (XT.i0_eq_f hc38) ?_
        refine g_lload X0 hx (hb hby at_41) rfl rfl ?_
        refine g_ldc2 X0 hx hZ hown (hw _ (List.mem_of_getElem? (i := 19) rfl)) (hb hby at_43) rfl ?_
        refine g_land X0 hx (r := (1 : Int64)) (hb hby at_46) rfl rfl ?_
        refine g_lconst X0 hx (r := (1 : Int64)) (hb hby at_47) rfl rfl ?_
        refine g_ladd X0 hx (r := (2 : Int64)) (hb hby at_48) rfl rfl ?_
        refine g_lstore X0 hx (Ls' := #[.val (.long p0), .second, .val (.long p1), .second, .val (.int p2), .val (.long (2 : Int64)), .second, .val (.long (1 : Int64)), .second, .unset, .unset, .unset, .unset, .unset]) (hb hby at_49) rfl rfl ?_
        have hp51 : (0 : Int64) < (2 : Int64) := (by decide)
        refine g_lload X0 hx (hb hby at_51) rfl rfl ?_
        refine g_ldc2 X0 hx hZ hown (hw _ (List.mem_of_getElem? (i := 20) rfl)) (hb hby at_53) rfl ?_
        refine g_land X0 hx (r := (1 : Int64)) (hb hby at_56) rfl rfl ?_
        refine g_lconst X0 hx (r := (1 : Int64)) (hb hby at_57) rfl rfl ?_
        refine g_ladd X0 hx (r := (2 : Int64)) (hb hby at_58) rfl rfl ?_
        refine g_lstore X0 hx (Ls' := #[.val (.long p0), .second, .val (.long p1), .second, .val (.int p2), .val (.long (2 : Int64)), .second, .val (.long (2 : Int64)), .second, .unset, .unset, .unset, .unset, .unset]) (hb hby at_59) rfl rfl ?_
        refine g_iload X0 hx (hb hby at_61) rfl rfl ?_
        refine g_iconst X0 hx (r := (1 : Int32)) (hb hby at_63) rfl rfl ?_
        refine g_iand X0 hx (hb hby at_64) rfl rfl ?_
        by_cases hc65 : (p2 &&& (1 : Int32)) = (0 : Int32)
        · skip
          refine g_ifY X0 hx (q := 94) (hb hby at_65) (XT.i0_eq_t hc65) (by decide) (by decide) ?_
          refine g_new X0 hx hZ hown (hw _ (List.mem_of_getElem? (i := 1) rfl)) (hw _ (List.mem_of_getElem? (i := 2) rfl)) (hw _ (List.mem_of_getElem? (i := 3) rfl)) e0 (hb hby at_94) rfl (by decide) (by decide) fun T7 h7 b7 X7 e7 q7 E7 A7 D7 => ?_
          have g_b7 : n0 ≤ b7 := Nat.le_trans Z0 (Nat.le_of_eq q7.symm)
          have Z7 : n0 ≤ h7.size := Nat.le_trans Z0 E7.1
          have F7_quotaMicros : Fld Z h7 b7 "com/example/ely/ely/probe/CpuQuota" "quotaMicros" "J" (.long (0 : Int64)) := D7 (Or.inr (hw _ (List.mem_of_getElem? (i := 11) rfl))) (ty := .long) (by decide)
          have F7_periodMicros : Fld Z h7 b7 "com/example/ely/ely/probe/CpuQuota" "periodMicros" "J" (.long (0 : Int64)) := D7 (Or.inr (hw _ (List.mem_of_getElem? (i := 13) rfl))) (ty := .long) (by decide)
          refine g_dup X7 hx (hb hby at_97) rfl rfl ?_
          refine g_lload X7 hx (hb hby at_98) rfl rfl ?_
          refine g_lload X7 hx (hb hby at_100) rfl rfl ?_
          refine g_special X7 hx hZ hown rfl (hw _ (List.mem_of_getElem? (i := 4) rfl)) (hw _ (List.mem_of_getElem? (i := 5) rfl)) (hw _ (List.mem_of_getElem? (i := 3) rfl)) (hw _ (List.mem_of_getElem? (i := 6) rfl)) (by decide) (a := b7) (rm_ini l Z a0 hw b7 (2 : Int64) (2 : Int64) h7 n0 Z7 F7_quotaMicros F7_periodMicros A7 g_b7 (by decide) (by decide)) (by rw [hml]; rfl) e7 [(.long (2 : Int64)), (.long (2 : Int64))] rfl rfl (W := 1) (Nat.le_of_eq rfl) (by decide) (by decide) (by decide) (by decide) (lenOf pd_0 rfl) (hb hby at_102) rfl fun v8 T8 L8 X8 hQ8 => ?_
          obtain ⟨rfl, Nq8, kc8, p8_0, p8_1, p8_2⟩ := hQ8
          have N8 := Fr.app N0 Nq8
          have Z8 : n0 ≤ T8.heap.size := Nat.le_trans Z7 kc8.1
          show Ga _ _ _ _ _ _ _ _ _ _ _ [(.ref b7)]
          refine g_astore X8 hx (Ls' := #[.val (.long p0), .second, .val (.long p1), .second, .val (.int p2), .val (.long (2 : Int64)), .second, .val (.long (2 : Int64)), .second, .val (.ref b7), .unset, .unset, .unset, .unset]) (hb hby at_105) rfl rfl rfl ?_
          refine g_aload X8 hx (hb hby at_107) rfl rfl rfl ?_
          refine g_virtual X8 hx hZ hown (hw _ (List.mem_of_getElem? (i := 14) rfl)) (hw _ (List.mem_of_getElem? (i := 15) rfl)) (notFace_of_selects (args := #[]) (mvT hZ (hw _ (List.mem_of_getElem? (i := 17) rfl)))) (hw _ (List.mem_of_getElem? (i := 17) rfl)) (hw _ (List.mem_of_getElem? (i := 16) rfl)) (hw _ (List.mem_of_getElem? (i := 3) rfl)) (hw _ (List.mem_of_getElem? (i := 18) rfl)) (by decide) (a := b7) p8_0 (rm_up l Z a0 hw b7 (2 : Int64) (2 : Int64) T8.heap n0 Z8 p8_1 p8_2 (own_ne0 (by decide))) (by rw [hml]; rfl) rfl [] rfl rfl (W := 0) (Nat.le_of_eq rfl) (by decide) (by decide) (by decide) (by decide) (lenOf pd_1 rfl) (hb hby at_109) rfl fun v9 T9 L9 X9 hQ9 => ?_
          obtain ⟨r_9, rfl, Nq9, eh9, p9_0⟩ := hQ9
          have N9 := Fr.app N8 Nq9
          have hr_9 := p9_0
          show Ga _ _ _ _ _ _ _ _ _ _ _ [(.long r_9)]
          refine g_lstore X9 hx (Ls' := #[.val (.long p0), .second, .val (.long p1), .second, .val (.int p2), .val (.long (2 : Int64)), .second, .val (.long (2 : Int64)), .second, .val (.ref b7), .val (.long r_9), .second, .unset, .unset]) (hb hby at_112) rfl rfl ?_
          refine g_lload X9 hx (hb hby at_114) rfl rfl ?_
          refine g_lconst X9 hx (r := (1 : Int64)) (hb hby at_116) rfl rfl ?_
          refine g_lsub X9 hx (r := (1 : Int64)) (hb hby at_117) rfl rfl ?_
          refine g_lload X9 hx (hb hby at_118) rfl rfl ?_
          refine g_ldiv X9 hx (r := (0 : Int64)) (hb hby at_120) rfl (by decide) rfl ?_
          refine g_lconst X9 hx (r := (1 : Int64)) (hb hby at_121) rfl rfl ?_
          refine g_ladd X9 hx (r := (1 : Int64)) (hb hby at_122) rfl rfl ?_
          refine g_lstore X9 hx (Ls' := #[.val (.long p0), .second, .val (.long p1), .second, .val (.int p2), .val (.long (2 : Int64)), .second, .val (.long (2 : Int64)), .second, .val (.ref b7), .val (.long r_9), .second, .val (.long (1 : Int64)), .second]) (hb hby at_123) rfl rfl ?_
          refine g_lload X9 hx (hb hby at_125) rfl rfl ?_
          refine g_lload X9 hx (hb hby at_127) rfl rfl ?_
          refine g_lcmp X9 hx (hb hby at_129) rfl  ?_
          have hc130 : r_9 = (1 : Int64) := (own_fin (q := (2 : Int64)) (p := (2 : Int64)) (w := (1 : Int64)) (by decide) (by decide) hr_9 (by decide)).1
          refine g_ifN X9 hx (hb hby at_130) rfl (XT.ll_ne_f hc130) ?_
          refine g_lload X9 hx (hb hby at_133) rfl rfl ?_
          refine g_lconst X9 hx (r := (1 : Int64)) (hb hby at_135) rfl rfl ?_
          refine g_lcmp X9 hx (hb hby at_136) rfl  ?_
          have hc137 : ¬ r_9 < (1 : Int64) := (own_fin (q := (2 : Int64)) (p := (2 : Int64)) (w := (1 : Int64)) (by decide) (by decide) hr_9 (by decide)).2
          refine g_ifN X9 hx (hb hby at_137) rfl (XT.ll_lt_f hc137) ?_
          refine g_iconst X9 hx (r := (1 : Int32)) (hb hby at_140) rfl rfl ?_
          refine g_goto X9 hx (q := 145) (hb hby at_141) (by decide) (by decide) ?_
          exact g_retN X9 hx (t := .boolean) (r := (1 : Int32)) hret (by simp) hlk (hb hby at_145) rfl (by decide) (by decide) (by rw [eh9]; exact ⟨rfl, N9⟩)
        · skip
          refine g_ifN X0 hx (hb hby at_65) rfl (XT.i0_eq_f hc65) ?_
          refine g_lload X0 hx (hb hby at_68) rfl rfl ?_
          refine g_lload X0 hx (hb hby at_70) rfl rfl ?_
          refine g_lload X0 hx (hb hby at_72) rfl rfl ?_
          refine g_lrem X0 hx (r := (0 : Int64)) (hb hby at_74) rfl (by decide) rfl ?_
          refine g_lsub X0 hx (r := (2 : Int64)) (hb hby at_75) rfl rfl ?_
          refine g_lstore X0 hx (Ls' := #[.val (.long p0), .second, .val (.long p1), .second, .val (.int p2), .val (.long (2 : Int64)), .second, .val (.long (2 : Int64)), .second, .val (.long (2 : Int64)), .second, .unset, .unset, .unset]) (hb hby at_76) rfl rfl ?_
          refine g_lload X0 hx (hb hby at_78) rfl rfl ?_
          refine g_lconst X0 hx (r := (0 : Int64)) (hb hby at_80) rfl rfl ?_
          refine g_lcmp X0 hx (hb hby at_81) rfl  ?_
          refine g_ifY X0 hx (q := 90) (hb hby at_82) (XT.ll_ne_t (by decide : ¬ (2 : Int64) = (0 : Int64))) (by decide) (by decide) ?_
          refine g_lload X0 hx (hb hby at_90) rfl rfl ?_
          refine g_lstore X0 hx (Ls' := #[.val (.long p0), .second, .val (.long p1), .second, .val (.int p2), .val (.long (2 : Int64)), .second, .val (.long (2 : Int64)), .second, .val (.long (2 : Int64)), .second, .unset, .unset, .unset]) (hb hby at_92) rfl rfl ?_
          refine g_new X0 hx hZ hown (hw _ (List.mem_of_getElem? (i := 1) rfl)) (hw _ (List.mem_of_getElem? (i := 2) rfl)) (hw _ (List.mem_of_getElem? (i := 3) rfl)) e0 (hb hby at_94) rfl (by decide) (by decide) fun T10 h10 b10 X10 e10 q10 E10 A10 D10 => ?_
          have g_b10 : n0 ≤ b10 := Nat.le_trans Z0 (Nat.le_of_eq q10.symm)
          have Z10 : n0 ≤ h10.size := Nat.le_trans Z0 E10.1
          have F10_quotaMicros : Fld Z h10 b10 "com/example/ely/ely/probe/CpuQuota" "quotaMicros" "J" (.long (0 : Int64)) := D10 (Or.inr (hw _ (List.mem_of_getElem? (i := 11) rfl))) (ty := .long) (by decide)
          have F10_periodMicros : Fld Z h10 b10 "com/example/ely/ely/probe/CpuQuota" "periodMicros" "J" (.long (0 : Int64)) := D10 (Or.inr (hw _ (List.mem_of_getElem? (i := 13) rfl))) (ty := .long) (by decide)
          refine g_dup X10 hx (hb hby at_97) rfl rfl ?_
          refine g_lload X10 hx (hb hby at_98) rfl rfl ?_
          refine g_lload X10 hx (hb hby at_100) rfl rfl ?_
          refine g_special X10 hx hZ hown rfl (hw _ (List.mem_of_getElem? (i := 4) rfl)) (hw _ (List.mem_of_getElem? (i := 5) rfl)) (hw _ (List.mem_of_getElem? (i := 3) rfl)) (hw _ (List.mem_of_getElem? (i := 6) rfl)) (by decide) (a := b10) (rm_ini l Z a0 hw b10 (2 : Int64) (2 : Int64) h10 n0 Z10 F10_quotaMicros F10_periodMicros A10 g_b10 (by decide) (by decide)) (by rw [hml]; rfl) e10 [(.long (2 : Int64)), (.long (2 : Int64))] rfl rfl (W := 1) (Nat.le_of_eq rfl) (by decide) (by decide) (by decide) (by decide) (lenOf pd_0 rfl) (hb hby at_102) rfl fun v11 T11 L11 X11 hQ11 => ?_
          obtain ⟨rfl, Nq11, kc11, p11_0, p11_1, p11_2⟩ := hQ11
          have N11 := Fr.app N0 Nq11
          have Z11 : n0 ≤ T11.heap.size := Nat.le_trans Z10 kc11.1
          show Ga _ _ _ _ _ _ _ _ _ _ _ [(.ref b10)]
          refine g_astore X11 hx (Ls' := #[.val (.long p0), .second, .val (.long p1), .second, .val (.int p2), .val (.long (2 : Int64)), .second, .val (.long (2 : Int64)), .second, .val (.ref b10), .unset, .unset, .unset, .unset]) (hb hby at_105) rfl rfl rfl ?_
          refine g_aload X11 hx (hb hby at_107) rfl rfl rfl ?_
          refine g_virtual X11 hx hZ hown (hw _ (List.mem_of_getElem? (i := 14) rfl)) (hw _ (List.mem_of_getElem? (i := 15) rfl)) (notFace_of_selects (args := #[]) (mvT hZ (hw _ (List.mem_of_getElem? (i := 17) rfl)))) (hw _ (List.mem_of_getElem? (i := 17) rfl)) (hw _ (List.mem_of_getElem? (i := 16) rfl)) (hw _ (List.mem_of_getElem? (i := 3) rfl)) (hw _ (List.mem_of_getElem? (i := 18) rfl)) (by decide) (a := b10) p11_0 (rm_up l Z a0 hw b10 (2 : Int64) (2 : Int64) T11.heap n0 Z11 p11_1 p11_2 (own_ne0 (by decide))) (by rw [hml]; rfl) rfl [] rfl rfl (W := 0) (Nat.le_of_eq rfl) (by decide) (by decide) (by decide) (by decide) (lenOf pd_1 rfl) (hb hby at_109) rfl fun v12 T12 L12 X12 hQ12 => ?_
          obtain ⟨r_12, rfl, Nq12, eh12, p12_0⟩ := hQ12
          have N12 := Fr.app N11 Nq12
          have hr_12 := p12_0
          show Ga _ _ _ _ _ _ _ _ _ _ _ [(.long r_12)]
          refine g_lstore X12 hx (Ls' := #[.val (.long p0), .second, .val (.long p1), .second, .val (.int p2), .val (.long (2 : Int64)), .second, .val (.long (2 : Int64)), .second, .val (.ref b10), .val (.long r_12), .second, .unset, .unset]) (hb hby at_112) rfl rfl ?_
          refine g_lload X12 hx (hb hby at_114) rfl rfl ?_
          refine g_lconst X12 hx (r := (1 : Int64)) (hb hby at_116) rfl rfl ?_
          refine g_lsub X12 hx (r := (1 : Int64)) (hb hby at_117) rfl rfl ?_
          refine g_lload X12 hx (hb hby at_118) rfl rfl ?_
          refine g_ldiv X12 hx (r := (0 : Int64)) (hb hby at_120) rfl (by decide) rfl ?_
          refine g_lconst X12 hx (r := (1 : Int64)) (hb hby at_121) rfl rfl ?_
          refine g_ladd X12 hx (r := (1 : Int64)) (hb hby at_122) rfl rfl ?_
          refine g_lstore X12 hx (Ls' := #[.val (.long p0), .second, .val (.long p1), .second, .val (.int p2), .val (.long (2 : Int64)), .second, .val (.long (2 : Int64)), .second, .val (.ref b10), .val (.long r_12), .second, .val (.long (1 : Int64)), .second]) (hb hby at_123) rfl rfl ?_
          refine g_lload X12 hx (hb hby at_125) rfl rfl ?_
          refine g_lload X12 hx (hb hby at_127) rfl rfl ?_
          refine g_lcmp X12 hx (hb hby at_129) rfl  ?_
          have hc130 : r_12 = (1 : Int64) := (own_fin (q := (2 : Int64)) (p := (2 : Int64)) (w := (1 : Int64)) (by decide) (by decide) hr_12 (by decide)).1
          refine g_ifN X12 hx (hb hby at_130) rfl (XT.ll_ne_f hc130) ?_
          refine g_lload X12 hx (hb hby at_133) rfl rfl ?_
          refine g_lconst X12 hx (r := (1 : Int64)) (hb hby at_135) rfl rfl ?_
          refine g_lcmp X12 hx (hb hby at_136) rfl  ?_
          have hc137 : ¬ r_12 < (1 : Int64) := (own_fin (q := (2 : Int64)) (p := (2 : Int64)) (w := (1 : Int64)) (by decide) (by decide) hr_12 (by decide)).2
          refine g_ifN X12 hx (hb hby at_137) rfl (XT.ll_lt_f hc137) ?_
          refine g_iconst X12 hx (r := (1 : Int32)) (hb hby at_140) rfl rfl ?_
          refine g_goto X12 hx (q := 145) (hb hby at_141) (by decide) (by decide) ?_
          exact g_retN X12 hx (t := .boolean) (r := (1 : Int32)) hret (by simp) hlk (hb hby at_145) rfl (by decide) (by decide) (by rw [eh12]; exact ⟨rfl, N12⟩)
    · skip
      refine g_ifY X0 hx (q := 34) (hb hby at_28) (XT.ll_ne_t hc28) (by decide) (by decide) ?_
      have hp34 : (0 : Int64) < v21 := own_m hv21 hc28
      refine g_iload X0 hx (hb hby at_34) rfl rfl ?_
      refine g_iconst X0 hx (r := (2 : Int32)) (hb hby at_36) rfl rfl ?_
      refine g_iand X0 hx (hb hby at_37) rfl rfl ?_
      by_cases hc38 : (p2 &&& (2 : Int32)) = (0 : Int32)
      · skip
        refine g_ifY X0 hx (q := 61) (hb hby at_38) (XT.i0_eq_t hc38) (by decide) (by decide) ?_
        refine g_iload X0 hx (hb hby at_61) rfl rfl ?_
        refine g_iconst X0 hx (r := (1 : Int32)) (hb hby at_63) rfl rfl ?_
        refine g_iand X0 hx (hb hby at_64) rfl rfl ?_
        by_cases hc65 : (p2 &&& (1 : Int32)) = (0 : Int32)
        · skip
          refine g_ifY X0 hx (q := 94) (hb hby at_65) (XT.i0_eq_t hc65) (by decide) (by decide) ?_
          refine g_new X0 hx hZ hown (hw _ (List.mem_of_getElem? (i := 1) rfl)) (hw _ (List.mem_of_getElem? (i := 2) rfl)) (hw _ (List.mem_of_getElem? (i := 3) rfl)) e0 (hb hby at_94) rfl (by decide) (by decide) fun T13 h13 b13 X13 e13 q13 E13 A13 D13 => ?_
          have g_b13 : n0 ≤ b13 := Nat.le_trans Z0 (Nat.le_of_eq q13.symm)
          have Z13 : n0 ≤ h13.size := Nat.le_trans Z0 E13.1
          have F13_quotaMicros : Fld Z h13 b13 "com/example/ely/ely/probe/CpuQuota" "quotaMicros" "J" (.long (0 : Int64)) := D13 (Or.inr (hw _ (List.mem_of_getElem? (i := 11) rfl))) (ty := .long) (by decide)
          have F13_periodMicros : Fld Z h13 b13 "com/example/ely/ely/probe/CpuQuota" "periodMicros" "J" (.long (0 : Int64)) := D13 (Or.inr (hw _ (List.mem_of_getElem? (i := 13) rfl))) (ty := .long) (by decide)
          refine g_dup X13 hx (hb hby at_97) rfl rfl ?_
          refine g_lload X13 hx (hb hby at_98) rfl rfl ?_
          refine g_lload X13 hx (hb hby at_100) rfl rfl ?_
          refine g_special X13 hx hZ hown rfl (hw _ (List.mem_of_getElem? (i := 4) rfl)) (hw _ (List.mem_of_getElem? (i := 5) rfl)) (hw _ (List.mem_of_getElem? (i := 3) rfl)) (hw _ (List.mem_of_getElem? (i := 6) rfl)) (by decide) (a := b13) (rm_ini l Z a0 hw b13 v21 (1 : Int64) h13 n0 Z13 F13_quotaMicros F13_periodMicros A13 g_b13 hp34 (by decide)) (by rw [hml]; rfl) e13 [(.long v21), (.long (1 : Int64))] rfl rfl (W := 1) (Nat.le_of_eq rfl) (by decide) (by decide) (by decide) (by decide) (lenOf pd_0 rfl) (hb hby at_102) rfl fun v14 T14 L14 X14 hQ14 => ?_
          obtain ⟨rfl, Nq14, kc14, p14_0, p14_1, p14_2⟩ := hQ14
          have N14 := Fr.app N0 Nq14
          have Z14 : n0 ≤ T14.heap.size := Nat.le_trans Z13 kc14.1
          show Ga _ _ _ _ _ _ _ _ _ _ _ [(.ref b13)]
          refine g_astore X14 hx (Ls' := #[.val (.long p0), .second, .val (.long p1), .second, .val (.int p2), .val (.long (1 : Int64)), .second, .val (.long v21), .second, .val (.ref b13), .unset, .unset, .unset, .unset]) (hb hby at_105) rfl rfl rfl ?_
          refine g_aload X14 hx (hb hby at_107) rfl rfl rfl ?_
          refine g_virtual X14 hx hZ hown (hw _ (List.mem_of_getElem? (i := 14) rfl)) (hw _ (List.mem_of_getElem? (i := 15) rfl)) (notFace_of_selects (args := #[]) (mvT hZ (hw _ (List.mem_of_getElem? (i := 17) rfl)))) (hw _ (List.mem_of_getElem? (i := 17) rfl)) (hw _ (List.mem_of_getElem? (i := 16) rfl)) (hw _ (List.mem_of_getElem? (i := 3) rfl)) (hw _ (List.mem_of_getElem? (i := 18) rfl)) (by decide) (a := b13) p14_0 (rm_up l Z a0 hw b13 v21 (1 : Int64) T14.heap n0 Z14 p14_1 p14_2 (own_ne0 (by decide))) (by rw [hml]; rfl) rfl [] rfl rfl (W := 0) (Nat.le_of_eq rfl) (by decide) (by decide) (by decide) (by decide) (lenOf pd_1 rfl) (hb hby at_109) rfl fun v15 T15 L15 X15 hQ15 => ?_
          obtain ⟨r_15, rfl, Nq15, eh15, p15_0⟩ := hQ15
          have N15 := Fr.app N14 Nq15
          have hr_15 := p15_0
          show Ga _ _ _ _ _ _ _ _ _ _ _ [(.long r_15)]
          refine g_lstore X15 hx (Ls' := #[.val (.long p0), .second, .val (.long p1), .second, .val (.int p2), .val (.long (1 : Int64)), .second, .val (.long v21), .second, .val (.ref b13), .val (.long r_15), .second, .unset, .unset]) (hb hby at_112) rfl rfl ?_
          refine g_lload X15 hx (hb hby at_114) rfl rfl ?_
          refine g_lconst X15 hx (r := (1 : Int64)) (hb hby at_116) rfl rfl ?_
          refine g_lsub X15 hx (hb hby at_117) rfl rfl ?_
          refine g_lload X15 hx (hb hby at_118) rfl rfl ?_
          refine g_ldiv X15 hx (hb hby at_120) rfl (by decide) rfl ?_
          refine g_lconst X15 hx (r := (1 : Int64)) (hb hby at_121) rfl rfl ?_
          obtain ⟨v122, hv122⟩ : ∃ r, (((v21 - (1 : Int64)) / (1 : Int64)) + (1 : Int64)) = r := ⟨_, rfl⟩
          refine g_ladd X15 hx (hb hby at_122) rfl hv122 ?_
          refine g_lstore X15 hx (Ls' := #[.val (.long p0), .second, .val (.long p1), .second, .val (.int p2), .val (.long (1 : Int64)), .second, .val (.long v21), .second, .val (.ref b13), .val (.long r_15), .second, .val (.long v122), .second]) (hb hby at_123) rfl rfl ?_
          refine g_lload X15 hx (hb hby at_125) rfl rfl ?_
          refine g_lload X15 hx (hb hby at_127) rfl rfl ?_
          refine g_lcmp X15 hx (hb hby at_129) rfl  ?_
          have hc130 : r_15 = v122 := (own_fin (q := v21) (p := (1 : Int64)) (w := v122) hp34 (by decide) hr_15 hv122).1
          refine g_ifN X15 hx (hb hby at_130) rfl (XT.ll_ne_f hc130) ?_
          refine g_lload X15 hx (hb hby at_133) rfl rfl ?_
          refine g_lconst X15 hx (r := (1 : Int64)) (hb hby at_135) rfl rfl ?_
          refine g_lcmp X15 hx (hb hby at_136) rfl  ?_
          have hc137 : ¬ r_15 < (1 : Int64) := (own_fin (q := v21) (p := (1 : Int64)) (w := v122) hp34 (by decide) hr_15 hv122).2
          refine g_ifN X15 hx (hb hby at_137) rfl (XT.ll_lt_f hc137) ?_
          refine g_iconst X15 hx (r := (1 : Int32)) (hb hby at_140) rfl rfl ?_
          refine g_goto X15 hx (q := 145) (hb hby at_141) (by decide) (by decide) ?_
          exact g_retN X15 hx (t := .boolean) (r := (1 : Int32)) hret (by simp) hlk (hb hby at_145) rfl (by decide) (by decide) (by rw [eh15]; exact ⟨rfl, N15⟩)
        · skip
          refine g_ifN X0 hx (hb hby at_65) rfl (XT.i0_eq_f hc65) ?_
          refine g_lload X0 hx (hb hby at_68) rfl rfl ?_
          refine g_lload X0 hx (hb hby at_70) rfl rfl ?_
          refine g_lload X0 hx (hb hby at_72) rfl rfl ?_
          refine g_lrem X0 hx (hb hby at_74) rfl (by decide) rfl ?_
          obtain ⟨v75, hv75⟩ : ∃ r, (v21 - (v21 % (1 : Int64))) = r := ⟨_, rfl⟩
          refine g_lsub X0 hx (hb hby at_75) rfl hv75 ?_
          refine g_lstore X0 hx (Ls' := #[.val (.long p0), .second, .val (.long p1), .second, .val (.int p2), .val (.long (1 : Int64)), .second, .val (.long v21), .second, .val (.long v75), .second, .unset, .unset, .unset]) (hb hby at_76) rfl rfl ?_
          refine g_lload X0 hx (hb hby at_78) rfl rfl ?_
          refine g_lconst X0 hx (r := (0 : Int64)) (hb hby at_80) rfl rfl ?_
          refine g_lcmp X0 hx (hb hby at_81) rfl  ?_
          by_cases hc82 : v75 = (0 : Int64)
          · skip
            refine g_ifN X0 hx (hb hby at_82) rfl (XT.ll_ne_f hc82) ?_
            refine g_lload X0 hx (hb hby at_85) rfl rfl ?_
            refine g_goto X0 hx (q := 92) (hb hby at_87) (by decide) (by decide) ?_
            refine g_lstore X0 hx (Ls' := #[.val (.long p0), .second, .val (.long p1), .second, .val (.int p2), .val (.long (1 : Int64)), .second, .val (.long (1 : Int64)), .second, .val (.long v75), .second, .unset, .unset, .unset]) (hb hby at_92) rfl rfl ?_
            refine g_new X0 hx hZ hown (hw _ (List.mem_of_getElem? (i := 1) rfl)) (hw _ (List.mem_of_getElem? (i := 2) rfl)) (hw _ (List.mem_of_getElem? (i := 3) rfl)) e0 (hb hby at_94) rfl (by decide) (by decide) fun T16 h16 b16 X16 e16 q16 E16 A16 D16 => ?_
            have g_b16 : n0 ≤ b16 := Nat.le_trans Z0 (Nat.le_of_eq q16.symm)
            have Z16 : n0 ≤ h16.size := Nat.le_trans Z0 E16.1
            have F16_quotaMicros : Fld Z h16 b16 "com/example/ely/ely/probe/CpuQuota" "quotaMicros" "J" (.long (0 : Int64)) := D16 (Or.inr (hw _ (List.mem_of_getElem? (i := 11) rfl))) (ty := .long) (by decide)
            have F16_periodMicros : Fld Z h16 b16 "com/example/ely/ely/probe/CpuQuota" "periodMicros" "J" (.long (0 : Int64)) := D16 (Or.inr (hw _ (List.mem_of_getElem? (i := 13) rfl))) (ty := .long) (by decide)
            refine g_dup X16 hx (hb hby at_97) rfl rfl ?_
            refine g_lload X16 hx (hb hby at_98) rfl rfl ?_
            refine g_lload X16 hx (hb hby at_100) rfl rfl ?_
            refine g_special X16 hx hZ hown rfl (hw _ (List.mem_of_getElem? (i := 4) rfl)) (hw _ (List.mem_of_getElem? (i := 5) rfl)) (hw _ (List.mem_of_getElem? (i := 3) rfl)) (hw _ (List.mem_of_getElem? (i := 6) rfl)) (by decide) (a := b16) (rm_ini l Z a0 hw b16 (1 : Int64) (1 : Int64) h16 n0 Z16 F16_quotaMicros F16_periodMicros A16 g_b16 (by decide) (by decide)) (by rw [hml]; rfl) e16 [(.long (1 : Int64)), (.long (1 : Int64))] rfl rfl (W := 1) (Nat.le_of_eq rfl) (by decide) (by decide) (by decide) (by decide) (lenOf pd_0 rfl) (hb hby at_102) rfl fun v17 T17 L17 X17 hQ17 => ?_
            obtain ⟨rfl, Nq17, kc17, p17_0, p17_1, p17_2⟩ := hQ17
            have N17 := Fr.app N0 Nq17
            have Z17 : n0 ≤ T17.heap.size := Nat.le_trans Z16 kc17.1
            show Ga _ _ _ _ _ _ _ _ _ _ _ [(.ref b16)]
            refine g_astore X17 hx (Ls' := #[.val (.long p0), .second, .val (.long p1), .second, .val (.int p2), .val (.long (1 : Int64)), .second, .val (.long (1 : Int64)), .second, .val (.ref b16), .unset, .unset, .unset, .unset]) (hb hby at_105) rfl rfl rfl ?_
            refine g_aload X17 hx (hb hby at_107) rfl rfl rfl ?_
            refine g_virtual X17 hx hZ hown (hw _ (List.mem_of_getElem? (i := 14) rfl)) (hw _ (List.mem_of_getElem? (i := 15) rfl)) (notFace_of_selects (args := #[]) (mvT hZ (hw _ (List.mem_of_getElem? (i := 17) rfl)))) (hw _ (List.mem_of_getElem? (i := 17) rfl)) (hw _ (List.mem_of_getElem? (i := 16) rfl)) (hw _ (List.mem_of_getElem? (i := 3) rfl)) (hw _ (List.mem_of_getElem? (i := 18) rfl)) (by decide) (a := b16) p17_0 (rm_up l Z a0 hw b16 (1 : Int64) (1 : Int64) T17.heap n0 Z17 p17_1 p17_2 (own_ne0 (by decide))) (by rw [hml]; rfl) rfl [] rfl rfl (W := 0) (Nat.le_of_eq rfl) (by decide) (by decide) (by decide) (by decide) (lenOf pd_1 rfl) (hb hby at_109) rfl fun v18 T18 L18 X18 hQ18 => ?_
            obtain ⟨r_18, rfl, Nq18, eh18, p18_0⟩ := hQ18
            have N18 := Fr.app N17 Nq18
            have hr_18 := p18_0
            show Ga _ _ _ _ _ _ _ _ _ _ _ [(.long r_18)]
            refine g_lstore X18 hx (Ls' := #[.val (.long p0), .second, .val (.long p1), .second, .val (.int p2), .val (.long (1 : Int64)), .second, .val (.long (1 : Int64)), .second, .val (.ref b16), .val (.long r_18), .second, .unset, .unset]) (hb hby at_112) rfl rfl ?_
            refine g_lload X18 hx (hb hby at_114) rfl rfl ?_
            refine g_lconst X18 hx (r := (1 : Int64)) (hb hby at_116) rfl rfl ?_
            refine g_lsub X18 hx (r := (0 : Int64)) (hb hby at_117) rfl rfl ?_
            refine g_lload X18 hx (hb hby at_118) rfl rfl ?_
            refine g_ldiv X18 hx (r := (0 : Int64)) (hb hby at_120) rfl (by decide) rfl ?_
            refine g_lconst X18 hx (r := (1 : Int64)) (hb hby at_121) rfl rfl ?_
            refine g_ladd X18 hx (r := (1 : Int64)) (hb hby at_122) rfl rfl ?_
            refine g_lstore X18 hx (Ls' := #[.val (.long p0), .second, .val (.long p1), .second, .val (.int p2), .val (.long (1 : Int64)), .second, .val (.long (1 : Int64)), .second, .val (.ref b16), .val (.long r_18), .second, .val (.long (1 : Int64)), .second]) (hb hby at_123) rfl rfl ?_
            refine g_lload X18 hx (hb hby at_125) rfl rfl ?_
            refine g_lload X18 hx (hb hby at_127) rfl rfl ?_
            refine g_lcmp X18 hx (hb hby at_129) rfl  ?_
            have hc130 : r_18 = (1 : Int64) := (own_fin (q := (1 : Int64)) (p := (1 : Int64)) (w := (1 : Int64)) (by decide) (by decide) hr_18 (by decide)).1
            refine g_ifN X18 hx (hb hby at_130) rfl (XT.ll_ne_f hc130) ?_
            refine g_lload X18 hx (hb hby at_133) rfl rfl ?_
            refine g_lconst X18 hx (r := (1 : Int64)) (hb hby at_135) rfl rfl ?_
            refine g_lcmp X18 hx (hb hby at_136) rfl  ?_
            have hc137 : ¬ r_18 < (1 : Int64) := (own_fin (q := (1 : Int64)) (p := (1 : Int64)) (w := (1 : Int64)) (by decide) (by decide) hr_18 (by decide)).2
            refine g_ifN X18 hx (hb hby at_137) rfl (XT.ll_lt_f hc137) ?_
            refine g_iconst X18 hx (r := (1 : Int32)) (hb hby at_140) rfl rfl ?_
            refine g_goto X18 hx (q := 145) (hb hby at_141) (by decide) (by decide) ?_
            exact g_retN X18 hx (t := .boolean) (r := (1 : Int32)) hret (by simp) hlk (hb hby at_145) rfl (by decide) (by decide) (by rw [eh18]; exact ⟨rfl, N18⟩)
          · skip
            refine g_ifY X0 hx (q := 90) (hb hby at_82) (XT.ll_ne_t hc82) (by decide) (by decide) ?_
            refine g_lload X0 hx (hb hby at_90) rfl rfl ?_
            refine g_lstore X0 hx (Ls' := #[.val (.long p0), .second, .val (.long p1), .second, .val (.int p2), .val (.long (1 : Int64)), .second, .val (.long v75), .second, .val (.long v75), .second, .unset, .unset, .unset]) (hb hby at_92) rfl rfl ?_
            have hp94 : (0 : Int64) < v75 := own_d hp34 (by decide) hv75 hc82
            refine g_new X0 hx hZ hown (hw _ (List.mem_of_getElem? (i := 1) rfl)) (hw _ (List.mem_of_getElem? (i := 2) rfl)) (hw _ (List.mem_of_getElem? (i := 3) rfl)) e0 (hb hby at_94) rfl (by decide) (by decide) fun T19 h19 b19 X19 e19 q19 E19 A19 D19 => ?_
            have g_b19 : n0 ≤ b19 := Nat.le_trans Z0 (Nat.le_of_eq q19.symm)
            have Z19 : n0 ≤ h19.size := Nat.le_trans Z0 E19.1
            have F19_quotaMicros : Fld Z h19 b19 "com/example/ely/ely/probe/CpuQuota" "quotaMicros" "J" (.long (0 : Int64)) := D19 (Or.inr (hw _ (List.mem_of_getElem? (i := 11) rfl))) (ty := .long) (by decide)
            have F19_periodMicros : Fld Z h19 b19 "com/example/ely/ely/probe/CpuQuota" "periodMicros" "J" (.long (0 : Int64)) := D19 (Or.inr (hw _ (List.mem_of_getElem? (i := 13) rfl))) (ty := .long) (by decide)
            refine g_dup X19 hx (hb hby at_97) rfl rfl ?_
            refine g_lload X19 hx (hb hby at_98) rfl rfl ?_
            refine g_lload X19 hx (hb hby at_100) rfl rfl ?_
            refine g_special X19 hx hZ hown rfl (hw _ (List.mem_of_getElem? (i := 4) rfl)) (hw _ (List.mem_of_getElem? (i := 5) rfl)) (hw _ (List.mem_of_getElem? (i := 3) rfl)) (hw _ (List.mem_of_getElem? (i := 6) rfl)) (by decide) (a := b19) (rm_ini l Z a0 hw b19 v75 (1 : Int64) h19 n0 Z19 F19_quotaMicros F19_periodMicros A19 g_b19 hp94 (by decide)) (by rw [hml]; rfl) e19 [(.long v75), (.long (1 : Int64))] rfl rfl (W := 1) (Nat.le_of_eq rfl) (by decide) (by decide) (by decide) (by decide) (lenOf pd_0 rfl) (hb hby at_102) rfl fun v20 T20 L20 X20 hQ20 => ?_
            obtain ⟨rfl, Nq20, kc20, p20_0, p20_1, p20_2⟩ := hQ20
            have N20 := Fr.app N0 Nq20
            have Z20 : n0 ≤ T20.heap.size := Nat.le_trans Z19 kc20.1
            show Ga _ _ _ _ _ _ _ _ _ _ _ [(.ref b19)]
            refine g_astore X20 hx (Ls' := #[.val (.long p0), .second, .val (.long p1), .second, .val (.int p2), .val (.long (1 : Int64)), .second, .val (.long v75), .second, .val (.ref b19), .unset, .unset, .unset, .unset]) (hb hby at_105) rfl rfl rfl ?_
            refine g_aload X20 hx (hb hby at_107) rfl rfl rfl ?_
            refine g_virtual X20 hx hZ hown (hw _ (List.mem_of_getElem? (i := 14) rfl)) (hw _ (List.mem_of_getElem? (i := 15) rfl)) (notFace_of_selects (args := #[]) (mvT hZ (hw _ (List.mem_of_getElem? (i := 17) rfl)))) (hw _ (List.mem_of_getElem? (i := 17) rfl)) (hw _ (List.mem_of_getElem? (i := 16) rfl)) (hw _ (List.mem_of_getElem? (i := 3) rfl)) (hw _ (List.mem_of_getElem? (i := 18) rfl)) (by decide) (a := b19) p20_0 (rm_up l Z a0 hw b19 v75 (1 : Int64) T20.heap n0 Z20 p20_1 p20_2 (own_ne0 (by decide))) (by rw [hml]; rfl) rfl [] rfl rfl (W := 0) (Nat.le_of_eq rfl) (by decide) (by decide) (by decide) (by decide) (lenOf pd_1 rfl) (hb hby at_109) rfl fun v21 T21 L21 X21 hQ21 => ?_
            obtain ⟨r_21, rfl, Nq21, eh21, p21_0⟩ := hQ21
            have N21 := Fr.app N20 Nq21
            have hr_21 := p21_0
            show Ga _ _ _ _ _ _ _ _ _ _ _ [(.long r_21)]
            refine g_lstore X21 hx (Ls' := #[.val (.long p0), .second, .val (.long p1), .second, .val (.int p2), .val (.long (1 : Int64)), .second, .val (.long v75), .second, .val (.ref b19), .val (.long r_21), .second, .unset, .unset]) (hb hby at_112) rfl rfl ?_
            refine g_lload X21 hx (hb hby at_114) rfl rfl ?_
            refine g_lconst X21 hx (r := (1 : Int64)) (hb hby at_116) rfl rfl ?_
            refine g_lsub X21 hx (hb hby at_117) rfl rfl ?_
            refine g_lload X21 hx (hb hby at_118) rfl rfl ?_
            refine g_ldiv X21 hx (hb hby at_120) rfl (by decide) rfl ?_
            refine g_lconst X21 hx (r := (1 : Int64)) (hb hby at_121) rfl rfl ?_
            obtain ⟨v122, hv122⟩ : ∃ r, (((v75 - (1 : Int64)) / (1 : Int64)) + (1 : Int64)) = r := ⟨_, rfl⟩
            refine g_ladd X21 hx (hb hby at_122) rfl hv122 ?_
            refine g_lstore X21 hx (Ls' := #[.val (.long p0), .second, .val (.long p1), .second, .val (.int p2), .val (.long (1 : Int64)), .second, .val (.long v75), .second, .val (.ref b19), .val (.long r_21), .second, .val (.long v122), .second]) (hb hby at_123) rfl rfl ?_
            refine g_lload X21 hx (hb hby at_125) rfl rfl ?_
            refine g_lload X21 hx (hb hby at_127) rfl rfl ?_
            refine g_lcmp X21 hx (hb hby at_129) rfl  ?_
            have hc130 : r_21 = v122 := (own_fin (q := v75) (p := (1 : Int64)) (w := v122) hp94 (by decide) hr_21 hv122).1
            refine g_ifN X21 hx (hb hby at_130) rfl (XT.ll_ne_f hc130) ?_
            refine g_lload X21 hx (hb hby at_133) rfl rfl ?_
            refine g_lconst X21 hx (r := (1 : Int64)) (hb hby at_135) rfl rfl ?_
            refine g_lcmp X21 hx (hb hby at_136) rfl  ?_
            have hc137 : ¬ r_21 < (1 : Int64) := (own_fin (q := v75) (p := (1 : Int64)) (w := v122) hp94 (by decide) hr_21 hv122).2
            refine g_ifN X21 hx (hb hby at_137) rfl (XT.ll_lt_f hc137) ?_
            refine g_iconst X21 hx (r := (1 : Int32)) (hb hby at_140) rfl rfl ?_
            refine g_goto X21 hx (q := 145) (hb hby at_141) (by decide) (by decide) ?_
            exact g_retN X21 hx (t := .boolean) (r := (1 : Int32)) hret (by simp) hlk (hb hby at_145) rfl (by decide) (by decide) (by rw [eh21]; exact ⟨rfl, N21⟩)
      · skip
        refine g_ifN X0 hx (hb hby at_38) rfl (XT.i0_eq_f hc38) ?_
        refine g_lload X0 hx (hb hby at_41) rfl rfl ?_
        refine g_ldc2 X0 hx hZ hown (hw _ (List.mem_of_getElem? (i := 19) rfl)) (hb hby at_43) rfl ?_
        refine g_land X0 hx (r := (1 : Int64)) (hb hby at_46) rfl rfl ?_
        refine g_lconst X0 hx (r := (1 : Int64)) (hb hby at_47) rfl rfl ?_
        refine g_ladd X0 hx (r := (2 : Int64)) (hb hby at_48) rfl rfl ?_
        refine g_lstore X0 hx (Ls' := #[.val (.long p0), .second, .val (.long p1), .second, .val (.int p2), .val (.long (2 : Int64)), .second, .val (.long v21), .second, .unset, .unset, .unset, .unset, .unset]) (hb hby at_49) rfl rfl ?_
        have hp51 : (0 : Int64) < (2 : Int64) := (by decide)
        refine g_lload X0 hx (hb hby at_51) rfl rfl ?_
        refine g_ldc2 X0 hx hZ hown (hw _ (List.mem_of_getElem? (i := 20) rfl)) (hb hby at_53) rfl ?_
        refine g_land X0 hx (hb hby at_56) rfl rfl ?_
        refine g_lconst X0 hx (r := (1 : Int64)) (hb hby at_57) rfl rfl ?_
        obtain ⟨v58, hv58⟩ : ∃ r, ((v21 &&& (63 : Int64)) + (1 : Int64)) = r := ⟨_, rfl⟩
        refine g_ladd X0 hx (hb hby at_58) rfl hv58 ?_
        refine g_lstore X0 hx (Ls' := #[.val (.long p0), .second, .val (.long p1), .second, .val (.int p2), .val (.long (2 : Int64)), .second, .val (.long v58), .second, .unset, .unset, .unset, .unset, .unset]) (hb hby at_59) rfl rfl ?_
        have hp61 : (0 : Int64) < v58 := own_63 hv58
        refine g_iload X0 hx (hb hby at_61) rfl rfl ?_
        refine g_iconst X0 hx (r := (1 : Int32)) (hb hby at_63) rfl rfl ?_
        refine g_iand X0 hx (hb hby at_64) rfl rfl ?_
        by_cases hc65 : (p2 &&& (1 : Int32)) = (0 : Int32)
        · skip
          refine g_ifY X0 hx (q := 94) (hb hby at_65) (XT.i0_eq_t hc65) (by decide) (by decide) ?_
          refine g_new X0 hx hZ hown (hw _ (List.mem_of_getElem? (i := 1) rfl)) (hw _ (List.mem_of_getElem? (i := 2) rfl)) (hw _ (List.mem_of_getElem? (i := 3) rfl)) e0 (hb hby at_94) rfl (by decide) (by decide) fun T22 h22 b22 X22 e22 q22 E22 A22 D22 => ?_
          have g_b22 : n0 ≤ b22 := Nat.le_trans Z0 (Nat.le_of_eq q22.symm)
          have Z22 : n0 ≤ h22.size := Nat.le_trans Z0 E22.1
          have F22_quotaMicros : Fld Z h22 b22 "com/example/ely/ely/probe/CpuQuota" "quotaMicros" "J" (.long (0 : Int64)) := D22 (Or.inr (hw _ (List.mem_of_getElem? (i := 11) rfl))) (ty := .long) (by decide)
          have F22_periodMicros : Fld Z h22 b22 "com/example/ely/ely/probe/CpuQuota" "periodMicros" "J" (.long (0 : Int64)) := D22 (Or.inr (hw _ (List.mem_of_getElem? (i := 13) rfl))) (ty := .long) (by decide)
          refine g_dup X22 hx (hb hby at_97) rfl rfl ?_
          refine g_lload X22 hx (hb hby at_98) rfl rfl ?_
          refine g_lload X22 hx (hb hby at_100) rfl rfl ?_
          refine g_special X22 hx hZ hown rfl (hw _ (List.mem_of_getElem? (i := 4) rfl)) (hw _ (List.mem_of_getElem? (i := 5) rfl)) (hw _ (List.mem_of_getElem? (i := 3) rfl)) (hw _ (List.mem_of_getElem? (i := 6) rfl)) (by decide) (a := b22) (rm_ini l Z a0 hw b22 v58 (2 : Int64) h22 n0 Z22 F22_quotaMicros F22_periodMicros A22 g_b22 hp61 (by decide)) (by rw [hml]; rfl) e22 [(.long v58), (.long (2 : Int64))] rfl rfl (W := 1) (Nat.le_of_eq rfl) (by decide) (by decide) (by decide) (by decide) (lenOf pd_0 rfl) (hb hby at_102) rfl fun v23 T23 L23 X23 hQ23 => ?_
          obtain ⟨rfl, Nq23, kc23, p23_0, p23_1, p23_2⟩ := hQ23
          have N23 := Fr.app N0 Nq23
          have Z23 : n0 ≤ T23.heap.size := Nat.le_trans Z22 kc23.1
          show Ga _ _ _ _ _ _ _ _ _ _ _ [(.ref b22)]
          refine g_astore X23 hx (Ls' := #[.val (.long p0), .second, .val (.long p1), .second, .val (.int p2), .val (.long (2 : Int64)), .second, .val (.long v58), .second, .val (.ref b22), .unset, .unset, .unset, .unset]) (hb hby at_105) rfl rfl rfl ?_
          refine g_aload X23 hx (hb hby at_107) rfl rfl rfl ?_
          refine g_virtual X23 hx hZ hown (hw _ (List.mem_of_getElem? (i := 14) rfl)) (hw _ (List.mem_of_getElem? (i := 15) rfl)) (notFace_of_selects (args := #[]) (mvT hZ (hw _ (List.mem_of_getElem? (i := 17) rfl)))) (hw _ (List.mem_of_getElem? (i := 17) rfl)) (hw _ (List.mem_of_getElem? (i := 16) rfl)) (hw _ (List.mem_of_getElem? (i := 3) rfl)) (hw _ (List.mem_of_getElem? (i := 18) rfl)) (by decide) (a := b22) p23_0 (rm_up l Z a0 hw b22 v58 (2 : Int64) T23.heap n0 Z23 p23_1 p23_2 (own_ne0 (by decide))) (by rw [hml]; rfl) rfl [] rfl rfl (W := 0) (Nat.le_of_eq rfl) (by decide) (by decide) (by decide) (by decide) (lenOf pd_1 rfl) (hb hby at_109) rfl fun v24 T24 L24 X24 hQ24 => ?_
          obtain ⟨r_24, rfl, Nq24, eh24, p24_0⟩ := hQ24
          have N24 := Fr.app N23 Nq24
          have hr_24 := p24_0
          show Ga _ _ _ _ _ _ _ _ _ _ _ [(.long r_24)]
          refine g_lstore X24 hx (Ls' := #[.val (.long p0), .second, .val (.long p1), .second, .val (.int p2), .val (.long (2 : Int64)), .second, .val (.long v58), .second, .val (.ref b22), .val (.long r_24), .second, .unset, .unset]) (hb hby at_112) rfl rfl ?_
          refine g_lload X24 hx (hb hby at_114) rfl rfl ?_
          refine g_lconst X24 hx (r := (1 : Int64)) (hb hby at_116) rfl rfl ?_
          refine g_lsub X24 hx (hb hby at_117) rfl rfl ?_
          refine g_lload X24 hx (hb hby at_118) rfl rfl ?_
          refine g_ldiv X24 hx (hb hby at_120) rfl (by decide) rfl ?_
          refine g_lconst X24 hx (r := (1 : Int64)) (hb hby at_121) rfl rfl ?_
          obtain ⟨v122, hv122⟩ : ∃ r, (((v58 - (1 : Int64)) / (2 : Int64)) + (1 : Int64)) = r := ⟨_, rfl⟩
          refine g_ladd X24 hx (hb hby at_122) rfl hv122 ?_
          refine g_lstore X24 hx (Ls' := #[.val (.long p0), .second, .val (.long p1), .second, .val (.int p2), .val (.long (2 : Int64)), .second, .val (.long v58), .second, .val (.ref b22), .val (.long r_24), .second, .val (.long v122), .second]) (hb hby at_123) rfl rfl ?_
          refine g_lload X24 hx (hb hby at_125) rfl rfl ?_
          refine g_lload X24 hx (hb hby at_127) rfl rfl ?_
          refine g_lcmp X24 hx (hb hby at_129) rfl  ?_
          have hc130 : r_24 = v122 := (own_fin (q := v58) (p := (2 : Int64)) (w := v122) hp61 (by decide) hr_24 hv122).1
          refine g_ifN X24 hx (hb hby at_130) rfl (XT.ll_ne_f hc130) ?_
          refine g_lload X24 hx (hb hby at_133) rfl rfl ?_
          refine g_lconst X24 hx (r := (1 : Int64)) (hb hby at_135) rfl rfl ?_
          refine g_lcmp X24 hx (hb hby at_136) rfl  ?_
          have hc137 : ¬ r_24 < (1 : Int64) := (own_fin (q := v58) (p := (2 : Int64)) (w := v122) hp61 (by decide) hr_24 hv122).2
          refine g_ifN X24 hx (hb hby at_137) rfl (XT.ll_lt_f hc137) ?_
          refine g_iconst X24 hx (r := (1 : Int32)) (hb hby at_140) rfl rfl ?_
          refine g_goto X24 hx (q := 145) (hb hby at_141) (by decide) (by decide) ?_
          exact g_retN X24 hx (t := .boolean) (r := (1 : Int32)) hret (by simp) hlk (hb hby at_145) rfl (by decide) (by decide) (by rw [eh24]; exact ⟨rfl, N24⟩)
        · skip
          refine g_ifN X0 hx (hb hby at_65) rfl (XT.i0_eq_f hc65) ?_
          refine g_lload X0 hx (hb hby at_68) rfl rfl ?_
          refine g_lload X0 hx (hb hby at_70) rfl rfl ?_
          refine g_lload X0 hx (hb hby at_72) rfl rfl ?_
          refine g_lrem X0 hx (hb hby at_74) rfl (by decide) rfl ?_
          obtain ⟨v75, hv75⟩ : ∃ r, (v58 - (v58 % (2 : Int64))) = r := ⟨_, rfl⟩
          refine g_lsub X0 hx (hb hby at_75) rfl hv75 ?_
          refine g_lstore X0 hx (Ls' := #[.val (.long p0), .second, .val (.long p1), .second, .val (.int p2), .val (.long (2 : Int64)), .second, .val (.long v58), .second, .val (.long v75), .second, .unset, .unset, .unset]) (hb hby at_76) rfl rfl ?_
          refine g_lload X0 hx (hb hby at_78) rfl rfl ?_
          refine g_lconst X0 hx (r := (0 : Int64)) (hb hby at_80) rfl rfl ?_
          refine g_lcmp X0 hx (hb hby at_81) rfl  ?_
          by_cases hc82 : v75 = (0 : Int64)
          · skip
            refine g_ifN X0 hx (hb hby at_82) rfl (XT.ll_ne_f hc82) ?_
            refine g_lload X0 hx (hb hby at_85) rfl rfl ?_
            refine g_goto X0 hx (q := 92) (hb hby at_87) (by decide) (by decide) ?_
            refine g_lstore X0 hx (Ls' := #[.val (.long p0), .second, .val (.long p1), .second, .val (.int p2), .val (.long (2 : Int64)), .second, .val (.long (2 : Int64)), .second, .val (.long v75), .second, .unset, .unset, .unset]) (hb hby at_92) rfl rfl ?_
            refine g_new X0 hx hZ hown (hw _ (List.mem_of_getElem? (i := 1) rfl)) (hw _ (List.mem_of_getElem? (i := 2) rfl)) (hw _ (List.mem_of_getElem? (i := 3) rfl)) e0 (hb hby at_94) rfl (by decide) (by decide) fun T25 h25 b25 X25 e25 q25 E25 A25 D25 => ?_
            have g_b25 : n0 ≤ b25 := Nat.le_trans Z0 (Nat.le_of_eq q25.symm)
            have Z25 : n0 ≤ h25.size := Nat.le_trans Z0 E25.1
            have F25_quotaMicros : Fld Z h25 b25 "com/example/ely/ely/probe/CpuQuota" "quotaMicros" "J" (.long (0 : Int64)) := D25 (Or.inr (hw _ (List.mem_of_getElem? (i := 11) rfl))) (ty := .long) (by decide)
            have F25_periodMicros : Fld Z h25 b25 "com/example/ely/ely/probe/CpuQuota" "periodMicros" "J" (.long (0 : Int64)) := D25 (Or.inr (hw _ (List.mem_of_getElem? (i := 13) rfl))) (ty := .long) (by decide)
            refine g_dup X25 hx (hb hby at_97) rfl rfl ?_
            refine g_lload X25 hx (hb hby at_98) rfl rfl ?_
            refine g_lload X25 hx (hb hby at_100) rfl rfl ?_
            refine g_special X25 hx hZ hown rfl (hw _ (List.mem_of_getElem? (i := 4) rfl)) (hw _ (List.mem_of_getElem? (i := 5) rfl)) (hw _ (List.mem_of_getElem? (i := 3) rfl)) (hw _ (List.mem_of_getElem? (i := 6) rfl)) (by decide) (a := b25) (rm_ini l Z a0 hw b25 (2 : Int64) (2 : Int64) h25 n0 Z25 F25_quotaMicros F25_periodMicros A25 g_b25 (by decide) (by decide)) (by rw [hml]; rfl) e25 [(.long (2 : Int64)), (.long (2 : Int64))] rfl rfl (W := 1) (Nat.le_of_eq rfl) (by decide) (by decide) (by decide) (by decide) (lenOf pd_0 rfl) (hb hby at_102) rfl fun v26 T26 L26 X26 hQ26 => ?_
            obtain ⟨rfl, Nq26, kc26, p26_0, p26_1, p26_2⟩ := hQ26
            have N26 := Fr.app N0 Nq26
            have Z26 : n0 ≤ T26.heap.size := Nat.le_trans Z25 kc26.1
            show Ga _ _ _ _ _ _ _ _ _ _ _ [(.ref b25)]
            refine g_astore X26 hx (Ls' := #[.val (.long p0), .second, .val (.long p1), .second, .val (.int p2), .val (.long (2 : Int64)), .second, .val (.long (2 : Int64)), .second, .val (.ref b25), .unset, .unset, .unset, .unset]) (hb hby at_105) rfl rfl rfl ?_
            refine g_aload X26 hx (hb hby at_107) rfl rfl rfl ?_
            refine g_virtual X26 hx hZ hown (hw _ (List.mem_of_getElem? (i := 14) rfl)) (hw _ (List.mem_of_getElem? (i := 15) rfl)) (notFace_of_selects (args := #[]) (mvT hZ (hw _ (List.mem_of_getElem? (i := 17) rfl)))) (hw _ (List.mem_of_getElem? (i := 17) rfl)) (hw _ (List.mem_of_getElem? (i := 16) rfl)) (hw _ (List.mem_of_getElem? (i := 3) rfl)) (hw _ (List.mem_of_getElem? (i := 18) rfl)) (by decide) (a := b25) p26_0 (rm_up l Z a0 hw b25 (2 : Int64) (2 : Int64) T26.heap n0 Z26 p26_1 p26_2 (own_ne0 (by decide))) (by rw [hml]; rfl) rfl [] rfl rfl (W := 0) (Nat.le_of_eq rfl) (by decide) (by decide) (by decide) (by decide) (lenOf pd_1 rfl) (hb hby at_109) rfl fun v27 T27 L27 X27 hQ27 => ?_
            obtain ⟨r_27, rfl, Nq27, eh27, p27_0⟩ := hQ27
            have N27 := Fr.app N26 Nq27
            have hr_27 := p27_0
            show Ga _ _ _ _ _ _ _ _ _ _ _ [(.long r_27)]
            refine g_lstore X27 hx (Ls' := #[.val (.long p0), .second, .val (.long p1), .second, .val (.int p2), .val (.long (2 : Int64)), .second, .val (.long (2 : Int64)), .second, .val (.ref b25), .val (.long r_27), .second, .unset, .unset]) (hb hby at_112) rfl rfl ?_
            refine g_lload X27 hx (hb hby at_114) rfl rfl ?_
            refine g_lconst X27 hx (r := (1 : Int64)) (hb hby at_116) rfl rfl ?_
            refine g_lsub X27 hx (r := (1 : Int64)) (hb hby at_117) rfl rfl ?_
            refine g_lload X27 hx (hb hby at_118) rfl rfl ?_
            refine g_ldiv X27 hx (r := (0 : Int64)) (hb hby at_120) rfl (by decide) rfl ?_
            refine g_lconst X27 hx (r := (1 : Int64)) (hb hby at_121) rfl rfl ?_
            refine g_ladd X27 hx (r := (1 : Int64)) (hb hby at_122) rfl rfl ?_
            refine g_lstore X27 hx (Ls' := #[.val (.long p0), .second, .val (.long p1), .second, .val (.int p2), .val (.long (2 : Int64)), .second, .val (.long (2 : Int64)), .second, .val (.ref b25), .val (.long r_27), .second, .val (.long (1 : Int64)), .second]) (hb hby at_123) rfl rfl ?_
            refine g_lload X27 hx (hb hby at_125) rfl rfl ?_
            refine g_lload X27 hx (hb hby at_127) rfl rfl ?_
            refine g_lcmp X27 hx (hb hby at_129) rfl  ?_
            have hc130 : r_27 = (1 : Int64) := (own_fin (q := (2 : Int64)) (p := (2 : Int64)) (w := (1 : Int64)) (by decide) (by decide) hr_27 (by decide)).1
            refine g_ifN X27 hx (hb hby at_130) rfl (XT.ll_ne_f hc130) ?_
            refine g_lload X27 hx (hb hby at_133) rfl rfl ?_
            refine g_lconst X27 hx (r := (1 : Int64)) (hb hby at_135) rfl rfl ?_
            refine g_lcmp X27 hx (hb hby at_136) rfl  ?_
            have hc137 : ¬ r_27 < (1 : Int64) := (own_fin (q := (2 : Int64)) (p := (2 : Int64)) (w := (1 : Int64)) (by decide) (by decide) hr_27 (by decide)).2
            refine g_ifN X27 hx (hb hby at_137) rfl (XT.ll_lt_f hc137) ?_
            refine g_iconst X27 hx (r := (1 : Int32)) (hb hby at_140) rfl rfl ?_
            refine g_goto X27 hx (q := 145) (hb hby at_141) (by decide) (by decide) ?_
            exact g_retN X27 hx (t := .boolean) (r := (1 : Int32)) hret (by simp) hlk (hb hby at_145) rfl (by decide) (by decide) (by rw [eh27]; exact ⟨rfl, N27⟩)
          · skip
            refine g_ifY X0 hx (q := 90) (hb hby at_82) (XT.ll_ne_t hc82) (by decide) (by decide) ?_
            refine g_lload X0 hx (hb hby at_90) rfl rfl ?_
            refine g_lstore X0 hx (Ls' := #[.val (.long p0), .second, .val (.long p1), .second, .val (.int p2), .val (.long (2 : Int64)), .second, .val (.long v75), .second, .val (.long v75), .second, .unset, .unset, .unset]) (hb hby at_92) rfl rfl ?_
            have hp94 : (0 : Int64) < v75 := own_d hp61 (by decide) hv75 hc82
            refine g_new X0 hx hZ hown (hw _ (List.mem_of_getElem? (i := 1) rfl)) (hw _ (List.mem_of_getElem? (i := 2) rfl)) (hw _ (List.mem_of_getElem? (i := 3) rfl)) e0 (hb hby at_94) rfl (by decide) (by decide) fun T28 h28 b28 X28 e28 q28 E28 A28 D28 => ?_
            have g_b28 : n0 ≤ b28 := Nat.le_trans Z0 (Nat.le_of_eq q28.symm)
            have Z28 : n0 ≤ h28.size := Nat.le_trans Z0 E28.1
            have F28_quotaMicros : Fld Z h28 b28 "com/example/ely/ely/probe/CpuQuota" "quotaMicros" "J" (.long (0 : Int64)) := D28 (Or.inr (hw _ (List.mem_of_getElem? (i := 11) rfl))) (ty := .long) (by decide)
            have F28_periodMicros : Fld Z h28 b28 "com/example/ely/ely/probe/CpuQuota" "periodMicros" "J" (.long (0 : Int64)) := D28 (Or.inr (hw _ (List.mem_of_getElem? (i := 13) rfl))) (ty := .long) (by decide)
            refine g_dup X28 hx (hb hby at_97) rfl rfl ?_
            refine g_lload X28 hx (hb hby at_98) rfl rfl ?_
            refine g_lload X28 hx (hb hby at_100) rfl rfl ?_
            refine g_special X28 hx hZ hown rfl (hw _ (List.mem_of_getElem? (i := 4) rfl)) (hw _ (List.mem_of_getElem? (i := 5) rfl)) (hw _ (List.mem_of_getElem? (i := 3) rfl)) (hw _ (List.mem_of_getElem? (i := 6) rfl)) (by decide) (a := b28) (rm_ini l Z a0 hw b28 v75 (2 : Int64) h28 n0 Z28 F28_quotaMicros F28_periodMicros A28 g_b28 hp94 (by decide)) (by rw [hml]; rfl) e28 [(.long v75), (.long (2 : Int64))] rfl rfl (W := 1) (Nat.le_of_eq rfl) (by decide) (by decide) (by decide) (by decide) (lenOf pd_0 rfl) (hb hby at_102) rfl fun v29 T29 L29 X29 hQ29 => ?_
            obtain ⟨rfl, Nq29, kc29, p29_0, p29_1, p29_2⟩ := hQ29
            have N29 := Fr.app N0 Nq29
            have Z29 : n0 ≤ T29.heap.size := Nat.le_trans Z28 kc29.1
            show Ga _ _ _ _ _ _ _ _ _ _ _ [(.ref b28)]
            refine g_astore X29 hx (Ls' := #[.val (.long p0), .second, .val (.long p1), .second, .val (.int p2), .val (.long (2 : Int64)), .second, .val (.long v75), .second, .val (.ref b28), .unset, .unset, .unset, .unset]) (hb hby at_105) rfl rfl rfl ?_
            refine g_aload X29 hx (hb hby at_107) rfl rfl rfl ?_
            refine g_virtual X29 hx hZ hown (hw _ (List.mem_of_getElem? (i := 14) rfl)) (hw _ (List.mem_of_getElem? (i := 15) rfl)) (notFace_of_selects (args := #[]) (mvT hZ (hw _ (List.mem_of_getElem? (i := 17) rfl)))) (hw _ (List.mem_of_getElem? (i := 17) rfl)) (hw _ (List.mem_of_getElem? (i := 16) rfl)) (hw _ (List.mem_of_getElem? (i := 3) rfl)) (hw _ (List.mem_of_getElem? (i := 18) rfl)) (by decide) (a := b28) p29_0 (rm_up l Z a0 hw b28 v75 (2 : Int64) T29.heap n0 Z29 p29_1 p29_2 (own_ne0 (by decide))) (by rw [hml]; rfl) rfl [] rfl rfl (W := 0) (Nat.le_of_eq rfl) (by decide) (by decide) (by decide) (by decide) (lenOf pd_1 rfl) (hb hby at_109) rfl fun v30 T30 L30 X30 hQ30 => ?_
            obtain ⟨r_30, rfl, Nq30, eh30, p30_0⟩ := hQ30
            have N30 := Fr.app N29 Nq30
            have hr_30 := p30_0
            show Ga _ _ _ _ _ _ _ _ _ _ _ [(.long r_30)]
            refine g_lstore X30 hx (Ls' := #[.val (.long p0), .second, .val (.long p1), .second, .val (.int p2), .val (.long (2 : Int64)), .second, .val (.long v75), .second, .val (.ref b28), .val (.long r_30), .second, .unset, .unset]) (hb hby at_112) rfl rfl ?_
            refine g_lload X30 hx (hb hby at_114) rfl rfl ?_
            refine g_lconst X30 hx (r := (1 : Int64)) (hb hby at_116) rfl rfl ?_
            refine g_lsub X30 hx (hb hby at_117) rfl rfl ?_
            refine g_lload X30 hx (hb hby at_118) rfl rfl ?_
            refine g_ldiv X30 hx (hb hby at_120) rfl (by decide) rfl ?_
            refine g_lconst X30 hx (r := (1 : Int64)) (hb hby at_121) rfl rfl ?_
            obtain ⟨v122, hv122⟩ : ∃ r, (((v75 - (1 : Int64)) / (2 : Int64)) + (1 : Int64)) = r := ⟨_, rfl⟩
            refine g_ladd X30 hx (hb hby at_122) rfl hv122 ?_
            refine g_lstore X30 hx (Ls' := #[.val (.long p0), .second, .val (.long p1), .second, .val (.int p2), .val (.long (2 : Int64)), .second, .val (.long v75), .second, .val (.ref b28), .val (.long r_30), .second, .val (.long v122), .second]) (hb hby at_123) rfl rfl ?_
            refine g_lload X30 hx (hb hby at_125) rfl rfl ?_
            refine g_lload X30 hx (hb hby at_127) rfl rfl ?_
            refine g_lcmp X30 hx (hb hby at_129) rfl  ?_
            have hc130 : r_30 = v122 := (own_fin (q := v75) (p := (2 : Int64)) (w := v122) hp94 (by decide) hr_30 hv122).1
            refine g_ifN X30 hx (hb hby at_130) rfl (XT.ll_ne_f hc130) ?_
            refine g_lload X30 hx (hb hby at_133) rfl rfl ?_
            refine g_lconst X30 hx (r := (1 : Int64)) (hb hby at_135) rfl rfl ?_
            refine g_lcmp X30 hx (hb hby at_136) rfl  ?_
            have hc137 : ¬ r_30 < (1 : Int64) := (own_fin (q := v75) (p := (2 : Int64)) (w := v122) hp94 (by decide) hr_30 hv122).2
            refine g_ifN X30 hx (hb hby at_137) rfl (XT.ll_lt_f hc137) ?_
            refine g_iconst X30 hx (r := (1 : Int32)) (hb hby at_140) rfl rfl ?_
            refine g_goto X30 hx (q := 145) (hb hby at_141) (by decide) (by decide) ?_
            exact g_retN X30 hx (t := .boolean) (r := (1 : Int32)) hret (by simp) hlk (hb hby at_145) rfl (by decide) (by decide) (by rw [eh30]; exact ⟨rfl, N30⟩)
  · skip
    refine g_ifY X0 hx (q := 17) (hb hby at_11) (XT.ll_ne_t hc11) (by decide) (by decide) ?_
    have hp17 : (0 : Int64) < v4 := own_m hv4 hc11
    refine g_lloadN X0 hx (hb hby at_17) rfl rfl ?_
    refine g_ldc2 X0 hx hZ hown (hw _ (List.mem_of_getElem? (i := 0) rfl)) (hb hby at_18) rfl ?_
    obtain ⟨v21, hv21⟩ : ∃ r, (p0 &&& (9223372036854775807 : Int64)) = r := ⟨_, rfl⟩
    refine g_land X0 hx (hb hby at_21) rfl hv21 ?_
    refine g_lstore X0 hx (Ls' := #[.val (.long p0), .second, .val (.long p1), .second, .val (.int p2), .val (.long v4), .second, .val (.long v21), .second, .unset, .unset, .unset, .unset, .unset]) (hb hby at_22) rfl rfl ?_
    refine g_lload X0 hx (hb hby at_24) rfl rfl ?_
    refine g_lconst X0 hx (r := (0 : Int64)) (hb hby at_26) rfl rfl ?_
    refine g_lcmp X0 hx (hb hby at_27) rfl  ?_
    by_cases hc28 : v21 = (0 : Int64)
    · skip
      refine g_ifN X0 hx (hb hby at_28) rfl (XT.ll_ne_f hc28) ?_
      refine g_lconst X0 hx (r := (1 : Int64)) (hb hby at_31) rfl rfl ?_
      refine g_lstore X0 hx (Ls' := #[.val (.long p0), .second, .val (.long p1), .second, .val (.int p2), .val (.long v4), .second, .val (.long (1 : Int64)), .second, .unset, .unset, .unset, .unset, .unset]) (hb hby at_32) rfl rfl ?_
      have hp34 : (0 : Int64) < (1 : Int64) := (by decide)
      refine g_iload X0 hx (hb hby at_34) rfl rfl ?_
      refine g_iconst X0 hx (r := (2 : Int32)) (hb hby at_36) rfl rfl ?_
      refine g_iand X0 hx (hb hby at_37) rfl rfl ?_
      by_cases hc38 : (p2 &&& (2 : Int32)) = (0 : Int32)
      · skip
        refine g_ifY X0 hx (q := 61) (hb hby at_38) (XT.i0_eq_t hc38) (by decide) (by decide) ?_
        refine g_iload X0 hx (hb hby at_61) rfl rfl ?_
        refine g_iconst X0 hx (r := (1 : Int32)) (hb hby at_63) rfl rfl ?_
        refine g_iand X0 hx (hb hby at_64) rfl rfl ?_
        by_cases hc65 : (p2 &&& (1 : Int32)) = (0 : Int32)
        · skip
          refine g_ifY X0 hx (q := 94) (hb hby at_65) (XT.i0_eq_t hc65) (by decide) (by decide) ?_
          refine g_new X0 hx hZ hown (hw _ (List.mem_of_getElem? (i := 1) rfl)) (hw _ (List.mem_of_getElem? (i := 2) rfl)) (hw _ (List.mem_of_getElem? (i := 3) rfl)) e0 (hb hby at_94) rfl (by decide) (by decide) fun T31 h31 b31 X31 e31 q31 E31 A31 D31 => ?_
          have g_b31 : n0 ≤ b31 := Nat.le_trans Z0 (Nat.le_of_eq q31.symm)
          have Z31 : n0 ≤ h31.size := Nat.le_trans Z0 E31.1
          have F31_quotaMicros : Fld Z h31 b31 "com/example/ely/ely/probe/CpuQuota" "quotaMicros" "J" (.long (0 : Int64)) := D31 (Or.inr (hw _ (List.mem_of_getElem? (i := 11) rfl))) (ty := .long) (by decide)
          have F31_periodMicros : Fld Z h31 b31 "com/example/ely/ely/probe/CpuQuota" "periodMicros" "J" (.long (0 : Int64)) := D31 (Or.inr (hw _ (List.mem_of_getElem? (i := 13) rfl))) (ty := .long) (by decide)
          refine g_dup X31 hx (hb hby at_97) rfl rfl ?_
          refine g_lload X31 hx (hb hby at_98) rfl rfl ?_
          refine g_lload X31 hx (hb hby at_100) rfl rfl ?_
          refine g_special X31 hx hZ hown rfl (hw _ (List.mem_of_getElem? (i := 4) rfl)) (hw _ (List.mem_of_getElem? (i := 5) rfl)) (hw _ (List.mem_of_getElem? (i := 3) rfl)) (hw _ (List.mem_of_getElem? (i := 6) rfl)) (by decide) (a := b31) (rm_ini l Z a0 hw b31 (1 : Int64) v4 h31 n0 Z31 F31_quotaMicros F31_periodMicros A31 g_b31 (by decide) hp17) (by rw [hml]; rfl) e31 [(.long (1 : Int64)), (.long v4)] rfl rfl (W := 1) (Nat.le_of_eq rfl) (by decide) (by decide) (by decide) (by decide) (lenOf pd_0 rfl) (hb hby at_102) rfl fun v32 T32 L32 X32 hQ32 => ?_
          obtain ⟨rfl, Nq32, kc32, p32_0, p32_1, p32_2⟩ := hQ32
          have N32 := Fr.app N0 Nq32
          have Z32 : n0 ≤ T32.heap.size := Nat.le_trans Z31 kc32.1
          show Ga _ _ _ _ _ _ _ _ _ _ _ [(.ref b31)]
          refine g_astore X32 hx (Ls' := #[.val (.long p0), .second, .val (.long p1), .second, .val (.int p2), .val (.long v4), .second, .val (.long (1 : Int64)), .second, .val (.ref b31), .unset, .unset, .unset, .unset]) (hb hby at_105) rfl rfl rfl ?_
          refine g_aload X32 hx (hb hby at_107) rfl rfl rfl ?_
          refine g_virtual X32 hx hZ hown (hw _ (List.mem_of_getElem? (i := 14) rfl)) (hw _ (List.mem_of_getElem? (i := 15) rfl)) (notFace_of_selects (args := #[]) (mvT hZ (hw _ (List.mem_of_getElem? (i := 17) rfl)))) (hw _ (List.mem_of_getElem? (i := 17) rfl)) (hw _ (List.mem_of_getElem? (i := 16) rfl)) (hw _ (List.mem_of_getElem? (i := 3) rfl)) (hw _ (List.mem_of_getElem? (i := 18) rfl)) (by decide) (a := b31) p32_0 (rm_up l Z a0 hw b31 (1 : Int64) v4 T32.heap n0 Z32 p32_1 p32_2 (own_ne0 hp17)) (by rw [hml]; rfl) rfl [] rfl rfl (W := 0) (Nat.le_of_eq rfl) (by decide) (by decide) (by decide) (by decide) (lenOf pd_1 rfl) (hb hby at_109) rfl fun v33 T33 L33 X33 hQ33 => ?_
          obtain ⟨r_33, rfl, Nq33, eh33, p33_0⟩ := hQ33
          have N33 := Fr.app N32 Nq33
          have hr_33 := p33_0
          show Ga _ _ _ _ _ _ _ _ _ _ _ [(.long r_33)]
          refine g_lstore X33 hx (Ls' := #[.val (.long p0), .second, .val (.long p1), .second, .val (.int p2), .val (.long v4), .second, .val (.long (1 : Int64)), .second, .val (.ref b31), .val (.long r_33), .second, .unset, .unset]) (hb hby at_112) rfl rfl ?_
          refine g_lload X33 hx (hb hby at_114) rfl rfl ?_
          refine g_lconst X33 hx (r := (1 : Int64)) (hb hby at_116) rfl rfl ?_
          refine g_lsub X33 hx (r := (0 : Int64)) (hb hby at_117) rfl rfl ?_
          refine g_lload X33 hx (hb hby at_118) rfl rfl ?_
          refine g_ldiv X33 hx (hb hby at_120) rfl (own_ne0 hp17) rfl ?_
          refine g_lconst X33 hx (r := (1 : Int64)) (hb hby at_121) rfl rfl ?_
          obtain ⟨v122, hv122⟩ : ∃ r, (((0 : Int64) / v4) + (1 : Int64)) = r := ⟨_, rfl⟩
          refine g_ladd X33 hx (hb hby at_122) rfl hv122 ?_
          refine g_lstore X33 hx (Ls' := #[.val (.long p0), .second, .val (.long p1), .second, .val (.int p2), .val (.long v4), .second, .val (.long (1 : Int64)), .second, .val (.ref b31), .val (.long r_33), .second, .val (.long v122), .second]) (hb hby at_123) rfl rfl ?_
          refine g_lload X33 hx (hb hby at_125) rfl rfl ?_
          refine g_lload X33 hx (hb hby at_127) rfl rfl ?_
          refine g_lcmp X33 hx (hb hby at_129) rfl  ?_
          have hc130 : r_33 = v122 := (own_fin (q := (1 : Int64)) (p := v4) (w := v122) (by decide) hp17 hr_33 hv122).1
          refine g_ifN X33 hx (hb hby at_130) rfl (XT.ll_ne_f hc130) ?_
          refine g_lload X33 hx (hb hby at_133) rfl rfl ?_
          refine g_lconst X33 hx (r := (1 : Int64)) (hb hby at_135) rfl rfl ?_
          refine g_lcmp X33 hx (hb hby at_136) rfl  ?_
          have hc137 : ¬ r_33 < (1 : Int64) := (own_fin (q := (1 : Int64)) (p := v4) (w := v122) (by decide) hp17 hr_33 hv122).2
          refine g_ifN X33 hx (hb hby at_137) rfl (XT.ll_lt_f hc137) ?_
          refine g_iconst X33 hx (r := (1 : Int32)) (hb hby at_140) rfl rfl ?_
          refine g_goto X33 hx (q := 145) (hb hby at_141) (by decide) (by decide) ?_
          exact g_retN X33 hx (t := .boolean) (r := (1 : Int32)) hret (by simp) hlk (hb hby at_145) rfl (by decide) (by decide) (by rw [eh33]; exact ⟨rfl, N33⟩)
        · skip
          refine g_ifN X0 hx (hb hby at_65) rfl (XT.i0_eq_f hc65) ?_
          refine g_lload X0 hx (hb hby at_68) rfl rfl ?_
          refine g_lload X0 hx (hb hby at_70) rfl rfl ?_
          refine g_lload X0 hx (hb hby at_72) rfl rfl ?_
          refine g_lrem X0 hx (hb hby at_74) rfl (own_ne0 hp17) rfl ?_
          obtain ⟨v75, hv75⟩ : ∃ r, ((1 : Int64) - ((1 : Int64) % v4)) = r := ⟨_, rfl⟩
          refine g_lsub X0 hx (hb hby at_75) rfl hv75 ?_
          refine g_lstore X0 hx (Ls' := #[.val (.long p0), .second, .val (.long p1), .second, .val (.int p2), .val (.long v4), .second, .val (.long (1 : Int64)), .second, .val (.long v75), .second, .unset, .unset, .unset]) (hb hby at_76) rfl rfl ?_
          refine g_lload X0 hx (hb hby at_78) rfl rfl ?_
          refine g_lconst X0 hx (r := (0 : Int64)) (hb hby at_80) rfl rfl ?_
          refine g_lcmp X0 hx (hb hby at_81) rfl  ?_
          by_cases hc82 : v75 = (0 : Int64)
          · skip
            refine g_ifN X0 hx (hb hby at_82) rfl (XT.ll_ne_f hc82) ?_
            refine g_lload X0 hx (hb hby at_85) rfl rfl ?_
            refine g_goto X0 hx (q := 92) (hb hby at_87) (by decide) (by decide) ?_
            refine g_lstore X0 hx (Ls' := #[.val (.long p0), .second, .val (.long p1), .second, .val (.int p2), .val (.long v4), .second, .val (.long v4), .second, .val (.long v75), .second, .unset, .unset, .unset]) (hb hby at_92) rfl rfl ?_
            refine g_new X0 hx hZ hown (hw _ (List.mem_of_getElem? (i := 1) rfl)) (hw _ (List.mem_of_getElem? (i := 2) rfl)) (hw _ (List.mem_of_getElem? (i := 3) rfl)) e0 (hb hby at_94) rfl (by decide) (by decide) fun T34 h34 b34 X34 e34 q34 E34 A34 D34 => ?_
            have g_b34 : n0 ≤ b34 := Nat.le_trans Z0 (Nat.le_of_eq q34.symm)
            have Z34 : n0 ≤ h34.size := Nat.le_trans Z0 E34.1
            have F34_quotaMicros : Fld Z h34 b34 "com/example/ely/ely/probe/CpuQuota" "quotaMicros" "J" (.long (0 : Int64)) := D34 (Or.inr (hw _ (List.mem_of_getElem? (i := 11) rfl))) (ty := .long) (by decide)
            have F34_periodMicros : Fld Z h34 b34 "com/example/ely/ely/probe/CpuQuota" "periodMicros" "J" (.long (0 : Int64)) := D34 (Or.inr (hw _ (List.mem_of_getElem? (i := 13) rfl))) (ty := .long) (by decide)
            refine g_dup X34 hx (hb hby at_97) rfl rfl ?_
            refine g_lload X34 hx (hb hby at_98) rfl rfl ?_
            refine g_lload X34 hx (hb hby at_100) rfl rfl ?_
            refine g_special X34 hx hZ hown rfl (hw _ (List.mem_of_getElem? (i := 4) rfl)) (hw _ (List.mem_of_getElem? (i := 5) rfl)) (hw _ (List.mem_of_getElem? (i := 3) rfl)) (hw _ (List.mem_of_getElem? (i := 6) rfl)) (by decide) (a := b34) (rm_ini l Z a0 hw b34 v4 v4 h34 n0 Z34 F34_quotaMicros F34_periodMicros A34 g_b34 hp17 hp17) (by rw [hml]; rfl) e34 [(.long v4), (.long v4)] rfl rfl (W := 1) (Nat.le_of_eq rfl) (by decide) (by decide) (by decide) (by decide) (lenOf pd_0 rfl) (hb hby at_102) rfl fun v35 T35 L35 X35 hQ35 => ?_
            obtain ⟨rfl, Nq35, kc35, p35_0, p35_1, p35_2⟩ := hQ35
            have N35 := Fr.app N0 Nq35
            have Z35 : n0 ≤ T35.heap.size := Nat.le_trans Z34 kc35.1
            show Ga _ _ _ _ _ _ _ _ _ _ _ [(.ref b34)]
            refine g_astore X35 hx (Ls' := #[.val (.long p0), .second, .val (.long p1), .second, .val (.int p2), .val (.long v4), .second, .val (.long v4), .second, .val (.ref b34), .unset, .unset, .unset, .unset]) (hb hby at_105) rfl rfl rfl ?_
            refine g_aload X35 hx (hb hby at_107) rfl rfl rfl ?_
            refine g_virtual X35 hx hZ hown (hw _ (List.mem_of_getElem? (i := 14) rfl)) (hw _ (List.mem_of_getElem? (i := 15) rfl)) (notFace_of_selects (args := #[]) (mvT hZ (hw _ (List.mem_of_getElem? (i := 17) rfl)))) (hw _ (List.mem_of_getElem? (i := 17) rfl)) (hw _ (List.mem_of_getElem? (i := 16) rfl)) (hw _ (List.mem_of_getElem? (i := 3) rfl)) (hw _ (List.mem_of_getElem? (i := 18) rfl)) (by decide) (a := b34) p35_0 (rm_up l Z a0 hw b34 v4 v4 T35.heap n0 Z35 p35_1 p35_2 (own_ne0 hp17)) (by rw [hml]; rfl) rfl [] rfl rfl (W := 0) (Nat.le_of_eq rfl) (by decide) (by decide) (by decide) (by decide) (lenOf pd_1 rfl) (hb hby at_109) rfl fun v36 T36 L36 X36 hQ36 => ?_
            obtain ⟨r_36, rfl, Nq36, eh36, p36_0⟩ := hQ36
            have N36 := Fr.app N35 Nq36
            have hr_36 := p36_0
            show Ga _ _ _ _ _ _ _ _ _ _ _ [(.long r_36)]
            refine g_lstore X36 hx (Ls' := #[.val (.long p0), .second, .val (.long p1), .second, .val (.int p2), .val (.long v4), .second, .val (.long v4), .second, .val (.ref b34), .val (.long r_36), .second, .unset, .unset]) (hb hby at_112) rfl rfl ?_
            refine g_lload X36 hx (hb hby at_114) rfl rfl ?_
            refine g_lconst X36 hx (r := (1 : Int64)) (hb hby at_116) rfl rfl ?_
            refine g_lsub X36 hx (hb hby at_117) rfl rfl ?_
            refine g_lload X36 hx (hb hby at_118) rfl rfl ?_
            refine g_ldiv X36 hx (hb hby at_120) rfl (own_ne0 hp17) rfl ?_
            refine g_lconst X36 hx (r := (1 : Int64)) (hb hby at_121) rfl rfl ?_
            obtain ⟨v122, hv122⟩ : ∃ r, (((v4 - (1 : Int64)) / v4) + (1 : Int64)) = r := ⟨_, rfl⟩
            refine g_ladd X36 hx (hb hby at_122) rfl hv122 ?_
            refine g_lstore X36 hx (Ls' := #[.val (.long p0), .second, .val (.long p1), .second, .val (.int p2), .val (.long v4), .second, .val (.long v4), .second, .val (.ref b34), .val (.long r_36), .second, .val (.long v122), .second]) (hb hby at_123) rfl rfl ?_
            refine g_lload X36 hx (hb hby at_125) rfl rfl ?_
            refine g_lload X36 hx (hb hby at_127) rfl rfl ?_
            refine g_lcmp X36 hx (hb hby at_129) rfl  ?_
            have hc130 : r_36 = v122 := (own_fin (q := v4) (p := v4) (w := v122) hp17 hp17 hr_36 hv122).1
            refine g_ifN X36 hx (hb hby at_130) rfl (XT.ll_ne_f hc130) ?_
            refine g_lload X36 hx (hb hby at_133) rfl rfl ?_
            refine g_lconst X36 hx (r := (1 : Int64)) (hb hby at_135) rfl rfl ?_
            refine g_lcmp X36 hx (hb hby at_136) rfl  ?_
            have hc137 : ¬ r_36 < (1 : Int64) := (own_fin (q := v4) (p := v4) (w := v122) hp17 hp17 hr_36 hv122).2
            refine g_ifN X36 hx (hb hby at_137) rfl (XT.ll_lt_f hc137) ?_
            refine g_iconst X36 hx (r := (1 : Int32)) (hb hby at_140) rfl rfl ?_
            refine g_goto X36 hx (q := 145) (hb hby at_141) (by decide) (by decide) ?_
            exact g_retN X36 hx (t := .boolean) (r := (1 : Int32)) hret (by simp) hlk (hb hby at_145) rfl (by decide) (by decide) (by rw [eh36]; exact ⟨rfl, N36⟩)
          · skip
            refine g_ifY X0 hx (q := 90) (hb hby at_82) (XT.ll_ne_t hc82) (by decide) (by decide) ?_
            refine g_lload X0 hx (hb hby at_90) rfl rfl ?_
            refine g_lstore X0 hx (Ls' := #[.val (.long p0), .second, .val (.long p1), .second, .val (.int p2), .val (.long v4), .second, .val (.long v75), .second, .val (.long v75), .second, .unset, .unset, .unset]) (hb hby at_92) rfl rfl ?_
            have hp94 : (0 : Int64) < v75 := own_d (by decide) hp17 hv75 hc82
            refine g_new X0 hx hZ hown (hw _ (List.mem_of_getElem? (i := 1) rfl)) (hw _ (List.mem_of_getElem? (i := 2) rfl)) (hw _ (List.mem_of_getElem? (i := 3) rfl)) e0 (hb hby at_94) rfl (by decide) (by decide) fun T37 h37 b37 X37 e37 q37 E37 A37 D37 => ?_
            have g_b37 : n0 ≤ b37 := Nat.le_trans Z0 (Nat.le_of_eq q37.symm)
            have Z37 : n0 ≤ h37.size := Nat.le_trans Z0 E37.1
            have F37_quotaMicros : Fld Z h37 b37 "com/example/ely/ely/probe/CpuQuota" "quotaMicros" "J" (.long (0 : Int64)) := D37 (Or.inr (hw _ (List.mem_of_getElem? (i := 11) rfl))) (ty := .long) (by decide)
            have F37_periodMicros : Fld Z h37 b37 "com/example/ely/ely/probe/CpuQuota" "periodMicros" "J" (.long (0 : Int64)) := D37 (Or.inr (hw _ (List.mem_of_getElem? (i := 13) rfl))) (ty := .long) (by decide)
            refine g_dup X37 hx (hb hby at_97) rfl rfl ?_
            refine g_lload X37 hx (hb hby at_98) rfl rfl ?_
            refine g_lload X37 hx (hb hby at_100) rfl rfl ?_
            refine g_special X37 hx hZ hown rfl (hw _ (List.mem_of_getElem? (i := 4) rfl)) (hw _ (List.mem_of_getElem? (i := 5) rfl)) (hw _ (List.mem_of_getElem? (i := 3) rfl)) (hw _ (List.mem_of_getElem? (i := 6) rfl)) (by decide) (a := b37) (rm_ini l Z a0 hw b37 v75 v4 h37 n0 Z37 F37_quotaMicros F37_periodMicros A37 g_b37 hp94 hp17) (by rw [hml]; rfl) e37 [(.long v75), (.long v4)] rfl rfl (W := 1) (Nat.le_of_eq rfl) (by decide) (by decide) (by decide) (by decide) (lenOf pd_0 rfl) (hb hby at_102) rfl fun v38 T38 L38 X38 hQ38 => ?_
            obtain ⟨rfl, Nq38, kc38, p38_0, p38_1, p38_2⟩ := hQ38
            have N38 := Fr.app N0 Nq38
            have Z38 : n0 ≤ T38.heap.size := Nat.le_trans Z37 kc38.1
            show Ga _ _ _ _ _ _ _ _ _ _ _ [(.ref b37)]
            refine g_astore X38 hx (Ls' := #[.val (.long p0), .second, .val (.long p1), .second, .val (.int p2), .val (.long v4), .second, .val (.long v75), .second, .val (.ref b37), .unset, .unset, .unset, .unset]) (hb hby at_105) rfl rfl rfl ?_
            refine g_aload X38 hx (hb hby at_107) rfl rfl rfl ?_
            refine g_virtual X38 hx hZ hown (hw _ (List.mem_of_getElem? (i := 14) rfl)) (hw _ (List.mem_of_getElem? (i := 15) rfl)) (notFace_of_selects (args := #[]) (mvT hZ (hw _ (List.mem_of_getElem? (i := 17) rfl)))) (hw _ (List.mem_of_getElem? (i := 17) rfl)) (hw _ (List.mem_of_getElem? (i := 16) rfl)) (hw _ (List.mem_of_getElem? (i := 3) rfl)) (hw _ (List.mem_of_getElem? (i := 18) rfl)) (by decide) (a := b37) p38_0 (rm_up l Z a0 hw b37 v75 v4 T38.heap n0 Z38 p38_1 p38_2 (own_ne0 hp17)) (by rw [hml]; rfl) rfl [] rfl rfl (W := 0) (Nat.le_of_eq rfl) (by decide) (by decide) (by decide) (by decide) (lenOf pd_1 rfl) (hb hby at_109) rfl fun v39 T39 L39 X39 hQ39 => ?_
            obtain ⟨r_39, rfl, Nq39, eh39, p39_0⟩ := hQ39
            have N39 := Fr.app N38 Nq39
            have hr_39 := p39_0
            show Ga _ _ _ _ _ _ _ _ _ _ _ [(.long r_39)]
            refine g_lstore X39 hx (Ls' := #[.val (.long p0), .second, .val (.long p1), .second, .val (.int p2), .val (.long v4), .second, .val (.long v75), .second, .val (.ref b37), .val (.long r_39), .second, .unset, .unset]) (hb hby at_112) rfl rfl ?_
            refine g_lload X39 hx (hb hby at_114) rfl rfl ?_
            refine g_lconst X39 hx (r := (1 : Int64)) (hb hby at_116) rfl rfl ?_
            refine g_lsub X39 hx (hb hby at_117) rfl rfl ?_
            refine g_lload X39 hx (hb hby at_118) rfl rfl ?_
            refine g_ldiv X39 hx (hb hby at_120) rfl (own_ne0 hp17) rfl ?_
            refine g_lconst X39 hx (r := (1 : Int64)) (hb hby at_121) rfl rfl ?_
            obtain ⟨v122, hv122⟩ : ∃ r, (((v75 - (1 : Int64)) / v4) + (1 : Int64)) = r := ⟨_, rfl⟩
            refine g_ladd X39 hx (hb hby at_122) rfl hv122 ?_
            refine g_lstore X39 hx (Ls' := #[.val (.long p0), .second, .val (.long p1), .second, .val (.int p2), .val (.long v4), .second, .val (.long v75), .second, .val (.ref b37), .val (.long r_39), .second, .val (.long v122), .second]) (hb hby at_123) rfl rfl ?_
            refine g_lload X39 hx (hb hby at_125) rfl rfl ?_
            refine g_lload X39 hx (hb hby at_127) rfl rfl ?_
            refine g_lcmp X39 hx (hb hby at_129) rfl  ?_
            have hc130 : r_39 = v122 := (own_fin (q := v75) (p := v4) (w := v122) hp94 hp17 hr_39 hv122).1
            refine g_ifN X39 hx (hb hby at_130) rfl (XT.ll_ne_f hc130) ?_
            refine g_lload X39 hx (hb hby at_133) rfl rfl ?_
            refine g_lconst X39 hx (r := (1 : Int64)) (hb hby at_135) rfl rfl ?_
            refine g_lcmp X39 hx (hb hby at_136) rfl  ?_
            have hc137 : ¬ r_39 < (1 : Int64) := (own_fin (q := v75) (p := v4) (w := v122) hp94 hp17 hr_39 hv122).2
            refine g_ifN X39 hx (hb hby at_137) rfl (XT.ll_lt_f hc137) ?_
            refine g_iconst X39 hx (r := (1 : Int32)) (hb hby at_140) rfl rfl ?_
            refine g_goto X39 hx (q := 145) (hb hby at_141) (by decide) (by decide) ?_
            exact g_retN X39 hx (t := .boolean) (r := (1 : Int32)) hret (by simp) hlk (hb hby at_145) rfl (by decide) (by decide) (by rw [eh39]; exact ⟨rfl, N39⟩)
      · skip
        refine g_ifN X0 hx (hb hby at_38) rfl (XT.i0_eq_f hc38) ?_
        refine g_lload X0 hx (hb hby at_41) rfl rfl ?_
        refine g_ldc2 X0 hx hZ hown (hw _ (List.mem_of_getElem? (i := 19) rfl)) (hb hby at_43) rfl ?_
        refine g_land X0 hx (hb hby at_46) rfl rfl ?_
        refine g_lconst X0 hx (r := (1 : Int64)) (hb hby at_47) rfl rfl ?_
        obtain ⟨v48, hv48⟩ : ∃ r, ((v4 &&& (7 : Int64)) + (1 : Int64)) = r := ⟨_, rfl⟩
        refine g_ladd X0 hx (hb hby at_48) rfl hv48 ?_
        refine g_lstore X0 hx (Ls' := #[.val (.long p0), .second, .val (.long p1), .second, .val (.int p2), .val (.long v48), .second, .val (.long (1 : Int64)), .second, .unset, .unset, .unset, .unset, .unset]) (hb hby at_49) rfl rfl ?_
        have hp51 : (0 : Int64) < v48 := own_7 hv48
        refine g_lload X0 hx (hb hby at_51) rfl rfl ?_
        refine g_ldc2 X0 hx hZ hown (hw _ (List.mem_of_getElem? (i := 20) rfl)) (hb hby at_53) rfl ?_
        refine g_land X0 hx (r := (1 : Int64)) (hb hby at_56) rfl rfl ?_
        refine g_lconst X0 hx (r := (1 : Int64)) (hb hby at_57) rfl rfl ?_
        refine g_ladd X0 hx (r := (2 : Int64)) (hb hby at_58) rfl rfl ?_
        refine g_lstore X0 hx (Ls' := #[.val (.long p0), .second, .val (.long p1), .second, .val (.int p2), .val (.long v48), .second, .val (.long (2 : Int64)), .second, .unset, .unset, .unset, .unset, .unset]) (hb hby at_59) rfl rfl ?_
        refine g_iload X0 hx (hb hby at_61) rfl rfl ?_
        refine g_iconst X0 hx (r := (1 : Int32)) (hb hby at_63) rfl rfl ?_
        refine g_iand X0 hx (hb hby at_64) rfl rfl ?_
        by_cases hc65 : (p2 &&& (1 : Int32)) = (0 : Int32)
        · skip
          refine g_ifY X0 hx (q := 94) (hb hby at_65) (XT.i0_eq_t hc65) (by decide) (by decide) ?_
          refine g_new X0 hx hZ hown (hw _ (List.mem_of_getElem? (i := 1) rfl)) (hw _ (List.mem_of_getElem? (i := 2) rfl)) (hw _ (List.mem_of_getElem? (i := 3) rfl)) e0 (hb hby at_94) rfl (by decide) (by decide) fun T40 h40 b40 X40 e40 q40 E40 A40 D40 => ?_
          have g_b40 : n0 ≤ b40 := Nat.le_trans Z0 (Nat.le_of_eq q40.symm)
          have Z40 : n0 ≤ h40.size := Nat.le_trans Z0 E40.1
          have F40_quotaMicros : Fld Z h40 b40 "com/example/ely/ely/probe/CpuQuota" "quotaMicros" "J" (.long (0 : Int64)) := D40 (Or.inr (hw _ (List.mem_of_getElem? (i := 11) rfl))) (ty := .long) (by decide)
          have F40_periodMicros : Fld Z h40 b40 "com/example/ely/ely/probe/CpuQuota" "periodMicros" "J" (.long (0 : Int64)) := D40 (Or.inr (hw _ (List.mem_of_getElem? (i := 13) rfl))) (ty := .long) (by decide)
          refine g_dup X40 hx (hb hby at_97) rfl rfl ?_
          refine g_lload X40 hx (hb hby at_98) rfl rfl ?_
          refine g_lload X40 hx (hb hby at_100) rfl rfl ?_
          refine g_special X40 hx hZ hown rfl (hw _ (List.mem_of_getElem? (i := 4) rfl)) (hw _ (List.mem_of_getElem? (i := 5) rfl)) (hw _ (List.mem_of_getElem? (i := 3) rfl)) (hw _ (List.mem_of_getElem? (i := 6) rfl)) (by decide) (a := b40) (rm_ini l Z a0 hw b40 (2 : Int64) v48 h40 n0 Z40 F40_quotaMicros F40_periodMicros A40 g_b40 (by decide) hp51) (by rw [hml]; rfl) e40 [(.long (2 : Int64)), (.long v48)] rfl rfl (W := 1) (Nat.le_of_eq rfl) (by decide) (by decide) (by decide) (by decide) (lenOf pd_0 rfl) (hb hby at_102) rfl fun v41 T41 L41 X41 hQ41 => ?_
          obtain ⟨rfl, Nq41, kc41, p41_0, p41_1, p41_2⟩ := hQ41
          have N41 := Fr.app N0 Nq41
          have Z41 : n0 ≤ T41.heap.size := Nat.le_trans Z40 kc41.1
          show Ga _ _ _ _ _ _ _ _ _ _ _ [(.ref b40)]
          refine g_astore X41 hx (Ls' := #[.val (.long p0), .second, .val (.long p1), .second, .val (.int p2), .val (.long v48), .second, .val (.long (2 : Int64)), .second, .val (.ref b40), .unset, .unset, .unset, .unset]) (hb hby at_105) rfl rfl rfl ?_
          refine g_aload X41 hx (hb hby at_107) rfl rfl rfl ?_
          refine g_virtual X41 hx hZ hown (hw _ (List.mem_of_getElem? (i := 14) rfl)) (hw _ (List.mem_of_getElem? (i := 15) rfl)) (notFace_of_selects (args := #[]) (mvT hZ (hw _ (List.mem_of_getElem? (i := 17) rfl)))) (hw _ (List.mem_of_getElem? (i := 17) rfl)) (hw _ (List.mem_of_getElem? (i := 16) rfl)) (hw _ (List.mem_of_getElem? (i := 3) rfl)) (hw _ (List.mem_of_getElem? (i := 18) rfl)) (by decide) (a := b40) p41_0 (rm_up l Z a0 hw b40 (2 : Int64) v48 T41.heap n0 Z41 p41_1 p41_2 (own_ne0 hp51)) (by rw [hml]; rfl) rfl [] rfl rfl (W := 0) (Nat.le_of_eq rfl) (by decide) (by decide) (by decide) (by decide) (lenOf pd_1 rfl) (hb hby at_109) rfl fun v42 T42 L42 X42 hQ42 => ?_
          obtain ⟨r_42, rfl, Nq42, eh42, p42_0⟩ := hQ42
          have N42 := Fr.app N41 Nq42
          have hr_42 := p42_0
          show Ga _ _ _ _ _ _ _ _ _ _ _ [(.long r_42)]
          refine g_lstore X42 hx (Ls' := #[.val (.long p0), .second, .val (.long p1), .second, .val (.int p2), .val (.long v48), .second, .val (.long (2 : Int64)), .second, .val (.ref b40), .val (.long r_42), .second, .unset, .unset]) (hb hby at_112) rfl rfl ?_
          refine g_lload X42 hx (hb hby at_114) rfl rfl ?_
          refine g_lconst X42 hx (r := (1 : Int64)) (hb hby at_116) rfl rfl ?_
          refine g_lsub X42 hx (r := (1 : Int64)) (hb hby at_117) rfl rfl ?_
          refine g_lload X42 hx (hb hby at_118) rfl rfl ?_
          refine g_ldiv X42 hx (hb hby at_120) rfl (own_ne0 hp51) rfl ?_
          refine g_lconst X42 hx (r := (1 : Int64)) (hb hby at_121) rfl rfl ?_
          obtain ⟨v122, hv122⟩ : ∃ r, (((1 : Int64) / v48) + (1 : Int64)) = r := ⟨_, rfl⟩
          refine g_ladd X42 hx (hb hby at_122) rfl hv122 ?_
          refine g_lstore X42 hx (Ls' := #[.val (.long p0), .second, .val (.long p1), .second, .val (.int p2), .val (.long v48), .second, .val (.long (2 : Int64)), .second, .val (.ref b40), .val (.long r_42), .second, .val (.long v122), .second]) (hb hby at_123) rfl rfl ?_
          refine g_lload X42 hx (hb hby at_125) rfl rfl ?_
          refine g_lload X42 hx (hb hby at_127) rfl rfl ?_
          refine g_lcmp X42 hx (hb hby at_129) rfl  ?_
          have hc130 : r_42 = v122 := (own_fin (q := (2 : Int64)) (p := v48) (w := v122) (by decide) hp51 hr_42 hv122).1
          refine g_ifN X42 hx (hb hby at_130) rfl (XT.ll_ne_f hc130) ?_
          refine g_lload X42 hx (hb hby at_133) rfl rfl ?_
          refine g_lconst X42 hx (r := (1 : Int64)) (hb hby at_135) rfl rfl ?_
          refine g_lcmp X42 hx (hb hby at_136) rfl  ?_
          have hc137 : ¬ r_42 < (1 : Int64) := (own_fin (q := (2 : Int64)) (p := v48) (w := v122) (by decide) hp51 hr_42 hv122).2
          refine g_ifN X42 hx (hb hby at_137) rfl (XT.ll_lt_f hc137) ?_
          refine g_iconst X42 hx (r := (1 : Int32)) (hb hby at_140) rfl rfl ?_
          refine g_goto X42 hx (q := 145) (hb hby at_141) (by decide) (by decide) ?_
          exact g_retN X42 hx (t := .boolean) (r := (1 : Int32)) hret (by simp) hlk (hb hby at_145) rfl (by decide) (by decide) (by rw [eh42]; exact ⟨rfl, N42⟩)
        · skip
          refine g_ifN X0 hx (hb hby at_65) rfl (XT.i0_eq_f hc65) ?_
          refine g_lload X0 hx (hb hby at_68) rfl rfl ?_
          refine g_lload X0 hx (hb hby at_70) rfl rfl ?_
          refine g_lload X0 hx (hb hby at_72) rfl rfl ?_
          refine g_lrem X0 hx (hb hby at_74) rfl (own_ne0 hp51) rfl ?_
          obtain ⟨v75, hv75⟩ : ∃ r, ((2 : Int64) - ((2 : Int64) % v48)) = r := ⟨_, rfl⟩
          refine g_lsub X0 hx (hb hby at_75) rfl hv75 ?_
          refine g_lstore X0 hx (Ls' := #[.val (.long p0), .second, .val (.long p1), .second, .val (.int p2), .val (.long v48), .second, .val (.long (2 : Int64)), .second, .val (.long v75), .second, .unset, .unset, .unset]) (hb hby at_76) rfl rfl ?_
          refine g_lload X0 hx (hb hby at_78) rfl rfl ?_
          refine g_lconst X0 hx (r := (0 : Int64)) (hb hby at_80) rfl rfl ?_
          refine g_lcmp X0 hx (hb hby at_81) rfl  ?_
          by_cases hc82 : v75 = (0 : Int64)
          · skip
            refine g_ifN X0 hx (hb hby at_82) rfl (XT.ll_ne_f hc82) ?_
            refine g_lload X0 hx (hb hby at_85) rfl rfl ?_
            refine g_goto X0 hx (q := 92) (hb hby at_87) (by decide) (by decide) ?_
            refine g_lstore X0 hx (Ls' := #[.val (.long p0), .second, .val (.long p1), .second, .val (.int p2), .val (.long v48), .second, .val (.long v48), .second, .val (.long v75), .second, .unset, .unset, .unset]) (hb hby at_92) rfl rfl ?_
            refine g_new X0 hx hZ hown (hw _ (List.mem_of_getElem? (i := 1) rfl)) (hw _ (List.mem_of_getElem? (i := 2) rfl)) (hw _ (List.mem_of_getElem? (i := 3) rfl)) e0 (hb hby at_94) rfl (by decide) (by decide) fun T43 h43 b43 X43 e43 q43 E43 A43 D43 => ?_
            have g_b43 : n0 ≤ b43 := Nat.le_trans Z0 (Nat.le_of_eq q43.symm)
            have Z43 : n0 ≤ h43.size := Nat.le_trans Z0 E43.1
            have F43_quotaMicros : Fld Z h43 b43 "com/example/ely/ely/probe/CpuQuota" "quotaMicros" "J" (.long (0 : Int64)) := D43 (Or.inr (hw _ (List.mem_of_getElem? (i := 11) rfl))) (ty := .long) (by decide)
            have F43_periodMicros : Fld Z h43 b43 "com/example/ely/ely/probe/CpuQuota" "periodMicros" "J" (.long (0 : Int64)) := D43 (Or.inr (hw _ (List.mem_of_getElem? (i := 13) rfl))) (ty := .long) (by decide)
            refine g_dup X43 hx (hb hby at_97) rfl rfl ?_
            refine g_lload X43 hx (hb hby at_98) rfl rfl ?_
            refine g_lload X43 hx (hb hby at_100) rfl rfl ?_
            refine g_special X43 hx hZ hown rfl (hw _ (List.mem_of_getElem? (i := 4) rfl)) (hw _ (List.mem_of_getElem? (i := 5) rfl)) (hw _ (List.mem_of_getElem? (i := 3) rfl)) (hw _ (List.mem_of_getElem? (i := 6) rfl)) (by decide) (a := b43) (rm_ini l Z a0 hw b43 v48 v48 h43 n0 Z43 F43_quotaMicros F43_periodMicros A43 g_b43 hp51 hp51) (by rw [hml]; rfl) e43 [(.long v48), (.long v48)] rfl rfl (W := 1) (Nat.le_of_eq rfl) (by decide) (by decide) (by decide) (by decide) (lenOf pd_0 rfl) (hb hby at_102) rfl fun v44 T44 L44 X44 hQ44 => ?_
            obtain ⟨rfl, Nq44, kc44, p44_0, p44_1, p44_2⟩ := hQ44
            have N44 := Fr.app N0 Nq44
            have Z44 : n0 ≤ T44.heap.size := Nat.le_trans Z43 kc44.1
            show Ga _ _ _ _ _ _ _ _ _ _ _ [(.ref b43)]
            refine g_astore X44 hx (Ls' := #[.val (.long p0), .second, .val (.long p1), .second, .val (.int p2), .val (.long v48), .second, .val (.long v48), .second, .val (.ref b43), .unset, .unset, .unset, .unset]) (hb hby at_105) rfl rfl rfl ?_
            refine g_aload X44 hx (hb hby at_107) rfl rfl rfl ?_
            refine g_virtual X44 hx hZ hown (hw _ (List.mem_of_getElem? (i := 14) rfl)) (hw _ (List.mem_of_getElem? (i := 15) rfl)) (notFace_of_selects (args := #[]) (mvT hZ (hw _ (List.mem_of_getElem? (i := 17) rfl)))) (hw _ (List.mem_of_getElem? (i := 17) rfl)) (hw _ (List.mem_of_getElem? (i := 16) rfl)) (hw _ (List.mem_of_getElem? (i := 3) rfl)) (hw _ (List.mem_of_getElem? (i := 18) rfl)) (by decide) (a := b43) p44_0 (rm_up l Z a0 hw b43 v48 v48 T44.heap n0 Z44 p44_1 p44_2 (own_ne0 hp51)) (by rw [hml]; rfl) rfl [] rfl rfl (W := 0) (Nat.le_of_eq rfl) (by decide) (by decide) (by decide) (by decide) (lenOf pd_1 rfl) (hb hby at_109) rfl fun v45 T45 L45 X45 hQ45 => ?_
            obtain ⟨r_45, rfl, Nq45, eh45, p45_0⟩ := hQ45
            have N45 := Fr.app N44 Nq45
            have hr_45 := p45_0
            show Ga _ _ _ _ _ _ _ _ _ _ _ [(.long r_45)]
            refine g_lstore X45 hx (Ls' := #[.val (.long p0), .second, .val (.long p1), .second, .val (.int p2), .val (.long v48), .second, .val (.long v48), .second, .val (.ref b43), .val (.long r_45), .second, .unset, .unset]) (hb hby at_112) rfl rfl ?_
            refine g_lload X45 hx (hb hby at_114) rfl rfl ?_
            refine g_lconst X45 hx (r := (1 : Int64)) (hb hby at_116) rfl rfl ?_
            refine g_lsub X45 hx (hb hby at_117) rfl rfl ?_
            refine g_lload X45 hx (hb hby at_118) rfl rfl ?_
            refine g_ldiv X45 hx (hb hby at_120) rfl (own_ne0 hp51) rfl ?_
            refine g_lconst X45 hx (r := (1 : Int64)) (hb hby at_121) rfl rfl ?_
            obtain ⟨v122, hv122⟩ : ∃ r, (((v48 - (1 : Int64)) / v48) + (1 : Int64)) = r := ⟨_, rfl⟩
            refine g_ladd X45 hx (hb hby at_122) rfl hv122 ?_
            refine g_lstore X45 hx (Ls' := #[.val (.long p0), .second, .val (.long p1), .second, .val (.int p2), .val (.long v48), .second, .val (.long v48), .second, .val (.ref b43), .val (.long r_45), .second, .val (.long v122), .second]) (hb hby at_123) rfl rfl ?_
            refine g_lload X45 hx (hb hby at_125) rfl rfl ?_
            refine g_lload X45 hx (hb hby at_127) rfl rfl ?_
            refine g_lcmp X45 hx (hb hby at_129) rfl  ?_
            have hc130 : r_45 = v122 := (own_fin (q := v48) (p := v48) (w := v122) hp51 hp51 hr_45 hv122).1
            refine g_ifN X45 hx (hb hby at_130) rfl (XT.ll_ne_f hc130) ?_
            refine g_lload X45 hx (hb hby at_133) rfl rfl ?_
            refine g_lconst X45 hx (r := (1 : Int64)) (hb hby at_135) rfl rfl ?_
            refine g_lcmp X45 hx (hb hby at_136) rfl  ?_
            have hc137 : ¬ r_45 < (1 : Int64) := (own_fin (q := v48) (p := v48) (w := v122) hp51 hp51 hr_45 hv122).2
            refine g_ifN X45 hx (hb hby at_137) rfl (XT.ll_lt_f hc137) ?_
            refine g_iconst X45 hx (r := (1 : Int32)) (hb hby at_140) rfl rfl ?_
            refine g_goto X45 hx (q := 145) (hb hby at_141) (by decide) (by decide) ?_
            exact g_retN X45 hx (t := .boolean) (r := (1 : Int32)) hret (by simp) hlk (hb hby at_145) rfl (by decide) (by decide) (by rw [eh45]; exact ⟨rfl, N45⟩)
          · skip
            refine g_ifY X0 hx (q := 90) (hb hby at_82) (XT.ll_ne_t hc82) (by decide) (by decide) ?_
            refine g_lload X0 hx (hb hby at_90) rfl rfl ?_
            refine g_lstore X0 hx (Ls' := #[.val (.long p0), .second, .val (.long p1), .second, .val (.int p2), .val (.long v48), .second, .val (.long v75), .second, .val (.long v75), .second, .unset, .unset, .unset]) (hb hby at_92) rfl rfl ?_
            have hp94 : (0 : Int64) < v75 := own_d (by decide) hp51 hv75 hc82
            refine g_new X0 hx hZ hown (hw _ (List.mem_of_getElem? (i := 1) rfl)) (hw _ (List.mem_of_getElem? (i := 2) rfl)) (hw _ (List.mem_of_getElem? (i := 3) rfl)) e0 (hb hby at_94) rfl (by decide) (by decide) fun T46 h46 b46 X46 e46 q46 E46 A46 D46 => ?_
            have g_b46 : n0 ≤ b46 := Nat.le_trans Z0 (Nat.le_of_eq q46.symm)
            have Z46 : n0 ≤ h46.size := Nat.le_trans Z0 E46.1
            have F46_quotaMicros : Fld Z h46 b46 "com/example/ely/ely/probe/CpuQuota" "quotaMicros" "J" (.long (0 : Int64)) := D46 (Or.inr (hw _ (List.mem_of_getElem? (i := 11) rfl))) (ty := .long) (by decide)
            have F46_periodMicros : Fld Z h46 b46 "com/example/ely/ely/probe/CpuQuota" "periodMicros" "J" (.long (0 : Int64)) := D46 (Or.inr (hw _ (List.mem_of_getElem? (i := 13) rfl))) (ty := .long) (by decide)
            refine g_dup X46 hx (hb hby at_97) rfl rfl ?_
            refine g_lload X46 hx (hb hby at_98) rfl rfl ?_
            refine g_lload X46 hx (hb hby at_100) rfl rfl ?_
            refine g_special X46 hx hZ hown rfl (hw _ (List.mem_of_getElem? (i := 4) rfl)) (hw _ (List.mem_of_getElem? (i := 5) rfl)) (hw _ (List.mem_of_getElem? (i := 3) rfl)) (hw _ (List.mem_of_getElem? (i := 6) rfl)) (by decide) (a := b46) (rm_ini l Z a0 hw b46 v75 v48 h46 n0 Z46 F46_quotaMicros F46_periodMicros A46 g_b46 hp94 hp51) (by rw [hml]; rfl) e46 [(.long v75), (.long v48)] rfl rfl (W := 1) (Nat.le_of_eq rfl) (by decide) (by decide) (by decide) (by decide) (lenOf pd_0 rfl) (hb hby at_102) rfl fun v47 T47 L47 X47 hQ47 => ?_
            obtain ⟨rfl, Nq47, kc47, p47_0, p47_1, p47_2⟩ := hQ47
            have N47 := Fr.app N0 Nq47
            have Z47 : n0 ≤ T47.heap.size := Nat.le_trans Z46 kc47.1
            show Ga _ _ _ _ _ _ _ _ _ _ _ [(.ref b46)]
            refine g_astore X47 hx (Ls' := #[.val (.long p0), .second, .val (.long p1), .second, .val (.int p2), .val (.long v48), .second, .val (.long v75), .second, .val (.ref b46), .unset, .unset, .unset, .unset]) (hb hby at_105) rfl rfl rfl ?_
            refine g_aload X47 hx (hb hby at_107) rfl rfl rfl ?_
            refine g_virtual X47 hx hZ hown (hw _ (List.mem_of_getElem? (i := 14) rfl)) (hw _ (List.mem_of_getElem? (i := 15) rfl)) (notFace_of_selects (args := #[]) (mvT hZ (hw _ (List.mem_of_getElem? (i := 17) rfl)))) (hw _ (List.mem_of_getElem? (i := 17) rfl)) (hw _ (List.mem_of_getElem? (i := 16) rfl)) (hw _ (List.mem_of_getElem? (i := 3) rfl)) (hw _ (List.mem_of_getElem? (i := 18) rfl)) (by decide) (a := b46) p47_0 (rm_up l Z a0 hw b46 v75 v48 T47.heap n0 Z47 p47_1 p47_2 (own_ne0 hp51)) (by rw [hml]; rfl) rfl [] rfl rfl (W := 0) (Nat.le_of_eq rfl) (by decide) (by decide) (by decide) (by decide) (lenOf pd_1 rfl) (hb hby at_109) rfl fun v48 T48 L48 X48 hQ48 => ?_
            obtain ⟨r_48, rfl, Nq48, eh48, p48_0⟩ := hQ48
            have N48 := Fr.app N47 Nq48
            have hr_48 := p48_0
            show Ga _ _ _ _ _ _ _ _ _ _ _ [(.long r_48)]
            refine g_lstore X48 hx (Ls' := #[.val (.long p0), .second, .val (.long p1), .second, .val (.int p2), .val (.long v48), .second, .val (.long v75), .second, .val (.ref b46), .val (.long r_48), .second, .unset, .unset]) (hb hby at_112) rfl rfl ?_
            refine g_lload X48 hx (hb hby at_114) rfl rfl ?_
            refine g_lconst X48 hx (r := (1 : Int64)) (hb hby at_116) rfl rfl ?_
            refine g_lsub X48 hx (hb hby at_117) rfl rfl ?_
            refine g_lload X48 hx (hb hby at_118) rfl rfl ?_
            refine g_ldiv X48 hx (hb hby at_120) rfl (own_ne0 hp51) rfl ?_
            refine g_lconst X48 hx (r := (1 : Int64)) (hb hby at_121) rfl rfl ?_
            obtain ⟨v122, hv122⟩ : ∃ r, (((v75 - (1 : Int64)) / v48) + (1 : Int64)) = r := ⟨_, rfl⟩
            refine g_ladd X48 hx (hb hby at_122) rfl hv122 ?_
            refine g_lstore X48 hx (Ls' := #[.val (.long p0), .second, .val (.long p1), .second, .val (.int p2), .val (.long v48), .second, .val (.long v75), .second, .val (.ref b46), .val (.long r_48), .second, .val (.long v122), .second]) (hb hby at_123) rfl rfl ?_
            refine g_lload X48 hx (hb hby at_125) rfl rfl ?_
            refine g_lload X48 hx (hb hby at_127) rfl rfl ?_
            refine g_lcmp X48 hx (hb hby at_129) rfl  ?_
            have hc130 : r_48 = v122 := (own_fin (q := v75) (p := v48) (w := v122) hp94 hp51 hr_48 hv122).1
            refine g_ifN X48 hx (hb hby at_130) rfl (XT.ll_ne_f hc130) ?_
            refine g_lload X48 hx (hb hby at_133) rfl rfl ?_
            refine g_lconst X48 hx (r := (1 : Int64)) (hb hby at_135) rfl rfl ?_
            refine g_lcmp X48 hx (hb hby at_136) rfl  ?_
            have hc137 : ¬ r_48 < (1 : Int64) := (own_fin (q := v75) (p := v48) (w := v122) hp94 hp51 hr_48 hv122).2
            refine g_ifN X48 hx (hb hby at_137) rfl (XT.ll_lt_f hc137) ?_
            refine g_iconst X48 hx (r := (1 : Int32)) (hb hby at_140) rfl rfl ?_
            refine g_goto X48 hx (q := 145) (hb hby at_141) (by decide) (by decide) ?_
            exact g_retN X48 hx (t := .boolean) (r := (1 : Int32)) hret (by simp) hlk (hb hby at_145) rfl (by decide) (by decide) (by rw [eh48]; exact ⟨rfl, N48⟩)
    · skip
      refine g_ifY X0 hx (q := 34) (hb hby at_28) (XT.ll_ne_t hc28) (by decide) (by decide) ?_
      have hp34 : (0 : Int64) < v21 := own_m hv21 hc28
      refine g_iload X0 hx (hb hby at_34) rfl rfl ?_
      refine g_iconst X0 hx (r := (2 : Int32)) (hb hby at_36) rfl rfl ?_
      refine g_iand X0 hx (hb hby at_37) rfl rfl ?_
      by_cases hc38 : (p2 &&& (2 : Int32)) = (0 : Int32)
      · skip
        refine g_ifY X0 hx (q := 61) (hb hby at_38) (XT.i0_eq_t hc38) (by decide) (by decide) ?_
        refine g_iload X0 hx (hb hby at_61) rfl rfl ?_
        refine g_iconst X0 hx (r := (1 : Int32)) (hb hby at_63) rfl rfl ?_
        refine g_iand X0 hx (hb hby at_64) rfl rfl ?_
        by_cases hc65 : (p2 &&& (1 : Int32)) = (0 : Int32)
        · skip
          refine g_ifY X0 hx (q := 94) (hb hby at_65) (XT.i0_eq_t hc65) (by decide) (by decide) ?_
          refine g_new X0 hx hZ hown (hw _ (List.mem_of_getElem? (i := 1) rfl)) (hw _ (List.mem_of_getElem? (i := 2) rfl)) (hw _ (List.mem_of_getElem? (i := 3) rfl)) e0 (hb hby at_94) rfl (by decide) (by decide) fun T49 h49 b49 X49 e49 q49 E49 A49 D49 => ?_
          have g_b49 : n0 ≤ b49 := Nat.le_trans Z0 (Nat.le_of_eq q49.symm)
          have Z49 : n0 ≤ h49.size := Nat.le_trans Z0 E49.1
          have F49_quotaMicros : Fld Z h49 b49 "com/example/ely/ely/probe/CpuQuota" "quotaMicros" "J" (.long (0 : Int64)) := D49 (Or.inr (hw _ (List.mem_of_getElem? (i := 11) rfl))) (ty := .long) (by decide)
          have F49_periodMicros : Fld Z h49 b49 "com/example/ely/ely/probe/CpuQuota" "periodMicros" "J" (.long (0 : Int64)) := D49 (Or.inr (hw _ (List.mem_of_getElem? (i := 13) rfl))) (ty := .long) (by decide)
          refine g_dup X49 hx (hb hby at_97) rfl rfl ?_
          refine g_lload X49 hx (hb hby at_98) rfl rfl ?_
          refine g_lload X49 hx (hb hby at_100) rfl rfl ?_
          refine g_special X49 hx hZ hown rfl (hw _ (List.mem_of_getElem? (i := 4) rfl)) (hw _ (List.mem_of_getElem? (i := 5) rfl)) (hw _ (List.mem_of_getElem? (i := 3) rfl)) (hw _ (List.mem_of_getElem? (i := 6) rfl)) (by decide) (a := b49) (rm_ini l Z a0 hw b49 v21 v4 h49 n0 Z49 F49_quotaMicros F49_periodMicros A49 g_b49 hp34 hp17) (by rw [hml]; rfl) e49 [(.long v21), (.long v4)] rfl rfl (W := 1) (Nat.le_of_eq rfl) (by decide) (by decide) (by decide) (by decide) (lenOf pd_0 rfl) (hb hby at_102) rfl fun v50 T50 L50 X50 hQ50 => ?_
          obtain ⟨rfl, Nq50, kc50, p50_0, p50_1, p50_2⟩ := hQ50
          have N50 := Fr.app N0 Nq50
          have Z50 : n0 ≤ T50.heap.size := Nat.le_trans Z49 kc50.1
          show Ga _ _ _ _ _ _ _ _ _ _ _ [(.ref b49)]
          refine g_astore X50 hx (Ls' := #[.val (.long p0), .second, .val (.long p1), .second, .val (.int p2), .val (.long v4), .second, .val (.long v21), .second, .val (.ref b49), .unset, .unset, .unset, .unset]) (hb hby at_105) rfl rfl rfl ?_
          refine g_aload X50 hx (hb hby at_107) rfl rfl rfl ?_
          refine g_virtual X50 hx hZ hown (hw _ (List.mem_of_getElem? (i := 14) rfl)) (hw _ (List.mem_of_getElem? (i := 15) rfl)) (notFace_of_selects (args := #[]) (mvT hZ (hw _ (List.mem_of_getElem? (i := 17) rfl)))) (hw _ (List.mem_of_getElem? (i := 17) rfl)) (hw _ (List.mem_of_getElem? (i := 16) rfl)) (hw _ (List.mem_of_getElem? (i := 3) rfl)) (hw _ (List.mem_of_getElem? (i := 18) rfl)) (by decide) (a := b49) p50_0 (rm_up l Z a0 hw b49 v21 v4 T50.heap n0 Z50 p50_1 p50_2 (own_ne0 hp17)) (by rw [hml]; rfl) rfl [] rfl rfl (W := 0) (Nat.le_of_eq rfl) (by decide) (by decide) (by decide) (by decide) (lenOf pd_1 rfl) (hb hby at_109) rfl fun v51 T51 L51 X51 hQ51 => ?_
          obtain ⟨r_51, rfl, Nq51, eh51, p51_0⟩ := hQ51
          have N51 := Fr.app N50 Nq51
          have hr_51 := p51_0
          show Ga _ _ _ _ _ _ _ _ _ _ _ [(.long r_51)]
          refine g_lstore X51 hx (Ls' := #[.val (.long p0), .second, .val (.long p1), .second, .val (.int p2), .val (.long v4), .second, .val (.long v21), .second, .val (.ref b49), .val (.long r_51), .second, .unset, .unset]) (hb hby at_112) rfl rfl ?_
          refine g_lload X51 hx (hb hby at_114) rfl rfl ?_
          refine g_lconst X51 hx (r := (1 : Int64)) (hb hby at_116) rfl rfl ?_
          refine g_lsub X51 hx (hb hby at_117) rfl rfl ?_
          refine g_lload X51 hx (hb hby at_118) rfl rfl ?_
          refine g_ldiv X51 hx (hb hby at_120) rfl (own_ne0 hp17) rfl ?_
          refine g_lconst X51 hx (r := (1 : Int64)) (hb hby at_121) rfl rfl ?_
          obtain ⟨v122, hv122⟩ : ∃ r, (((v21 - (1 : Int64)) / v4) + (1 : Int64)) = r := ⟨_, rfl⟩
          refine g_ladd X51 hx (hb hby at_122) rfl hv122 ?_
          refine g_lstore X51 hx (Ls' := #[.val (.long p0), .second, .val (.long p1), .second, .val (.int p2), .val (.long v4), .second, .val (.long v21), .second, .val (.ref b49), .val (.long r_51), .second, .val (.long v122), .second]) (hb hby at_123) rfl rfl ?_
          refine g_lload X51 hx (hb hby at_125) rfl rfl ?_
          refine g_lload X51 hx (hb hby at_127) rfl rfl ?_
          refine g_lcmp X51 hx (hb hby at_129) rfl  ?_
          have hc130 : r_51 = v122 := (own_fin (q := v21) (p := v4) (w := v122) hp34 hp17 hr_51 hv122).1
          refine g_ifN X51 hx (hb hby at_130) rfl (XT.ll_ne_f hc130) ?_
          refine g_lload X51 hx (hb hby at_133) rfl rfl ?_
          refine g_lconst X51 hx (r := (1 : Int64)) (hb hby at_135) rfl rfl ?_
          refine g_lcmp X51 hx (hb hby at_136) rfl  ?_
          have hc137 : ¬ r_51 < (1 : Int64) := (own_fin (q := v21) (p := v4) (w := v122) hp34 hp17 hr_51 hv122).2
          refine g_ifN X51 hx (hb hby at_137) rfl (XT.ll_lt_f hc137) ?_
          refine g_iconst X51 hx (r := (1 : Int32)) (hb hby at_140) rfl rfl ?_
          refine g_goto X51 hx (q := 145) (hb hby at_141) (by decide) (by decide) ?_
          exact g_retN X51 hx (t := .boolean) (r := (1 : Int32)) hret (by simp) hlk (hb hby at_145) rfl (by decide) (by decide) (by rw [eh51]; exact ⟨rfl, N51⟩)
        · skip
          refine g_ifN X0 hx (hb hby at_65) rfl (XT.i0_eq_f hc65) ?_
          refine g_lload X0 hx (hb hby at_68) rfl rfl ?_
          refine g_lload X0 hx (hb hby at_70) rfl rfl ?_
          refine g_lload X0 hx (hb hby at_72) rfl rfl ?_
          refine g_lrem X0 hx (hb hby at_74) rfl (own_ne0 hp17) rfl ?_
          obtain ⟨v75, hv75⟩ : ∃ r, (v21 - (v21 % v4)) = r := ⟨_, rfl⟩
          refine g_lsub X0 hx (hb hby at_75) rfl hv75 ?_
          refine g_lstore X0 hx (Ls' := #[.val (.long p0), .second, .val (.long p1), .second, .val (.int p2), .val (.long v4), .second, .val (.long v21), .second, .val (.long v75), .second, .unset, .unset, .unset]) (hb hby at_76) rfl rfl ?_
          refine g_lload X0 hx (hb hby at_78) rfl rfl ?_
          refine g_lconst X0 hx (r := (0 : Int64)) (hb hby at_80) rfl rfl ?_
          refine g_lcmp X0 hx (hb hby at_81) rfl  ?_
          by_cases hc82 : v75 = (0 : Int64)
          · skip
            refine g_ifN X0 hx (hb hby at_82) rfl (XT.ll_ne_f hc82) ?_
            refine g_lload X0 hx (hb hby at_85) rfl rfl ?_
            refine g_goto X0 hx (q := 92) (hb hby at_87) (by decide) (by decide) ?_
            refine g_lstore X0 hx (Ls' := #[.val (.long p0), .second, .val (.long p1), .second, .val (.int p2), .val (.long v4), .second, .val (.long v4), .second, .val (.long v75), .second, .unset, .unset, .unset]) (hb hby at_92) rfl rfl ?_
            refine g_new X0 hx hZ hown (hw _ (List.mem_of_getElem? (i := 1) rfl)) (hw _ (List.mem_of_getElem? (i := 2) rfl)) (hw _ (List.mem_of_getElem? (i := 3) rfl)) e0 (hb hby at_94) rfl (by decide) (by decide) fun T52 h52 b52 X52 e52 q52 E52 A52 D52 => ?_
            have g_b52 : n0 ≤ b52 := Nat.le_trans Z0 (Nat.le_of_eq q52.symm)
            have Z52 : n0 ≤ h52.size := Nat.le_trans Z0 E52.1
            have F52_quotaMicros : Fld Z h52 b52 "com/example/ely/ely/probe/CpuQuota" "quotaMicros" "J" (.long (0 : Int64)) := D52 (Or.inr (hw _ (List.mem_of_getElem? (i := 11) rfl))) (ty := .long) (by decide)
            have F52_periodMicros : Fld Z h52 b52 "com/example/ely/ely/probe/CpuQuota" "periodMicros" "J" (.long (0 : Int64)) := D52 (Or.inr (hw _ (List.mem_of_getElem? (i := 13) rfl))) (ty := .long) (by decide)
            refine g_dup X52 hx (hb hby at_97) rfl rfl ?_
            refine g_lload X52 hx (hb hby at_98) rfl rfl ?_
            refine g_lload X52 hx (hb hby at_100) rfl rfl ?_
            refine g_special X52 hx hZ hown rfl (hw _ (List.mem_of_getElem? (i := 4) rfl)) (hw _ (List.mem_of_getElem? (i := 5) rfl)) (hw _ (List.mem_of_getElem? (i := 3) rfl)) (hw _ (List.mem_of_getElem? (i := 6) rfl)) (by decide) (a := b52) (rm_ini l Z a0 hw b52 v4 v4 h52 n0 Z52 F52_quotaMicros F52_periodMicros A52 g_b52 hp17 hp17) (by rw [hml]; rfl) e52 [(.long v4), (.long v4)] rfl rfl (W := 1) (Nat.le_of_eq rfl) (by decide) (by decide) (by decide) (by decide) (lenOf pd_0 rfl) (hb hby at_102) rfl fun v53 T53 L53 X53 hQ53 => ?_
            obtain ⟨rfl, Nq53, kc53, p53_0, p53_1, p53_2⟩ := hQ53
            have N53 := Fr.app N0 Nq53
            have Z53 : n0 ≤ T53.heap.size := Nat.le_trans Z52 kc53.1
            show Ga _ _ _ _ _ _ _ _ _ _ _ [(.ref b52)]
            refine g_astore X53 hx (Ls' := #[.val (.long p0), .second, .val (.long p1), .second, .val (.int p2), .val (.long v4), .second, .val (.long v4), .second, .val (.ref b52), .unset, .unset, .unset, .unset]) (hb hby at_105) rfl rfl rfl ?_
            refine g_aload X53 hx (hb hby at_107) rfl rfl rfl ?_
            refine g_virtual X53 hx hZ hown (hw _ (List.mem_of_getElem? (i := 14) rfl)) (hw _ (List.mem_of_getElem? (i := 15) rfl)) (notFace_of_selects (args := #[]) (mvT hZ (hw _ (List.mem_of_getElem? (i := 17) rfl)))) (hw _ (List.mem_of_getElem? (i := 17) rfl)) (hw _ (List.mem_of_getElem? (i := 16) rfl)) (hw _ (List.mem_of_getElem? (i := 3) rfl)) (hw _ (List.mem_of_getElem? (i := 18) rfl)) (by decide) (a := b52) p53_0 (rm_up l Z a0 hw b52 v4 v4 T53.heap n0 Z53 p53_1 p53_2 (own_ne0 hp17)) (by rw [hml]; rfl) rfl [] rfl rfl (W := 0) (Nat.le_of_eq rfl) (by decide) (by decide) (by decide) (by decide) (lenOf pd_1 rfl) (hb hby at_109) rfl fun v54 T54 L54 X54 hQ54 => ?_
            obtain ⟨r_54, rfl, Nq54, eh54, p54_0⟩ := hQ54
            have N54 := Fr.app N53 Nq54
            have hr_54 := p54_0
            show Ga _ _ _ _ _ _ _ _ _ _ _ [(.long r_54)]
            refine g_lstore X54 hx (Ls' := #[.val (.long p0), .second, .val (.long p1), .second, .val (.int p2), .val (.long v4), .second, .val (.long v4), .second, .val (.ref b52), .val (.long r_54), .second, .unset, .unset]) (hb hby at_112) rfl rfl ?_
            refine g_lload X54 hx (hb hby at_114) rfl rfl ?_
            refine g_lconst X54 hx (r := (1 : Int64)) (hb hby at_116) rfl rfl ?_
            refine g_lsub X54 hx (hb hby at_117) rfl rfl ?_
            refine g_lload X54 hx (hb hby at_118) rfl rfl ?_
            refine g_ldiv X54 hx (hb hby at_120) rfl (own_ne0 hp17) rfl ?_
            refine g_lconst X54 hx (r := (1 : Int64)) (hb hby at_121) rfl rfl ?_
            obtain ⟨v122, hv122⟩ : ∃ r, (((v4 - (1 : Int64)) / v4) + (1 : Int64)) = r := ⟨_, rfl⟩
            refine g_ladd X54 hx (hb hby at_122) rfl hv122 ?_
            refine g_lstore X54 hx (Ls' := #[.val (.long p0), .second, .val (.long p1), .second, .val (.int p2), .val (.long v4), .second, .val (.long v4), .second, .val (.ref b52), .val (.long r_54), .second, .val (.long v122), .second]) (hb hby at_123) rfl rfl ?_
            refine g_lload X54 hx (hb hby at_125) rfl rfl ?_
            refine g_lload X54 hx (hb hby at_127) rfl rfl ?_
            refine g_lcmp X54 hx (hb hby at_129) rfl  ?_
            have hc130 : r_54 = v122 := (own_fin (q := v4) (p := v4) (w := v122) hp17 hp17 hr_54 hv122).1
            refine g_ifN X54 hx (hb hby at_130) rfl (XT.ll_ne_f hc130) ?_
            refine g_lload X54 hx (hb hby at_133) rfl rfl ?_
            refine g_lconst X54 hx (r := (1 : Int64)) (hb hby at_135) rfl rfl ?_
            refine g_lcmp X54 hx (hb hby at_136) rfl  ?_
            have hc137 : ¬ r_54 < (1 : Int64) := (own_fin (q := v4) (p := v4) (w := v122) hp17 hp17 hr_54 hv122).2
            refine g_ifN X54 hx (hb hby at_137) rfl (XT.ll_lt_f hc137) ?_
            refine g_iconst X54 hx (r := (1 : Int32)) (hb hby at_140) rfl rfl ?_
            refine g_goto X54 hx (q := 145) (hb hby at_141) (by decide) (by decide) ?_
            exact g_retN X54 hx (t := .boolean) (r := (1 : Int32)) hret (by simp) hlk (hb hby at_145) rfl (by decide) (by decide) (by rw [eh54]; exact ⟨rfl, N54⟩)
          · skip
            refine g_ifY X0 hx (q := 90) (hb hby at_82) (XT.ll_ne_t hc82) (by decide) (by decide) ?_
            refine g_lload X0 hx (hb hby at_90) rfl rfl ?_
            refine g_lstore X0 hx (Ls' := #[.val (.long p0), .second, .val (.long p1), .second, .val (.int p2), .val (.long v4), .second, .val (.long v75), .second, .val (.long v75), .second, .unset, .unset, .unset]) (hb hby at_92) rfl rfl ?_
            have hp94 : (0 : Int64) < v75 := own_d hp34 hp17 hv75 hc82
            refine g_new X0 hx hZ hown (hw _ (List.mem_of_getElem? (i := 1) rfl)) (hw _ (List.mem_of_getElem? (i := 2) rfl)) (hw _ (List.mem_of_getElem? (i := 3) rfl)) e0 (hb hby at_94) rfl (by decide) (by decide) fun T55 h55 b55 X55 e55 q55 E55 A55 D55 => ?_
            have g_b55 : n0 ≤ b55 := Nat.le_trans Z0 (Nat.le_of_eq q55.symm)
            have Z55 : n0 ≤ h55.size := Nat.le_trans Z0 E55.1
            have F55_quotaMicros : Fld Z h55 b55 "com/example/ely/ely/probe/CpuQuota" "quotaMicros" "J" (.long (0 : Int64)) := D55 (Or.inr (hw _ (List.mem_of_getElem? (i := 11) rfl))) (ty := .long) (by decide)
            have F55_periodMicros : Fld Z h55 b55 "com/example/ely/ely/probe/CpuQuota" "periodMicros" "J" (.long (0 : Int64)) := D55 (Or.inr (hw _ (List.mem_of_getElem? (i := 13) rfl))) (ty := .long) (by decide)
            refine g_dup X55 hx (hb hby at_97) rfl rfl ?_
            refine g_lload X55 hx (hb hby at_98) rfl rfl ?_
            refine g_lload X55 hx (hb hby at_100) rfl rfl ?_
            refine g_special X55 hx hZ hown rfl (hw _ (List.mem_of_getElem? (i := 4) rfl)) (hw _ (List.mem_of_getElem? (i := 5) rfl)) (hw _ (List.mem_of_getElem? (i := 3) rfl)) (hw _ (List.mem_of_getElem? (i := 6) rfl)) (by decide) (a := b55) (rm_ini l Z a0 hw b55 v75 v4 h55 n0 Z55 F55_quotaMicros F55_periodMicros A55 g_b55 hp94 hp17) (by rw [hml]; rfl) e55 [(.long v75), (.long v4)] rfl rfl (W := 1) (Nat.le_of_eq rfl) (by decide) (by decide) (by decide) (by decide) (lenOf pd_0 rfl) (hb hby at_102) rfl fun v56 T56 L56 X56 hQ56 => ?_
            obtain ⟨rfl, Nq56, kc56, p56_0, p56_1, p56_2⟩ := hQ56
            have N56 := Fr.app N0 Nq56
            have Z56 : n0 ≤ T56.heap.size := Nat.le_trans Z55 kc56.1
            show Ga _ _ _ _ _ _ _ _ _ _ _ [(.ref b55)]
            refine g_astore X56 hx (Ls' := #[.val (.long p0), .second, .val (.long p1), .second, .val (.int p2), .val (.long v4), .second, .val (.long v75), .second, .val (.ref b55), .unset, .unset, .unset, .unset]) (hb hby at_105) rfl rfl rfl ?_
            refine g_aload X56 hx (hb hby at_107) rfl rfl rfl ?_
            refine g_virtual X56 hx hZ hown (hw _ (List.mem_of_getElem? (i := 14) rfl)) (hw _ (List.mem_of_getElem? (i := 15) rfl)) (notFace_of_selects (args := #[]) (mvT hZ (hw _ (List.mem_of_getElem? (i := 17) rfl)))) (hw _ (List.mem_of_getElem? (i := 17) rfl)) (hw _ (List.mem_of_getElem? (i := 16) rfl)) (hw _ (List.mem_of_getElem? (i := 3) rfl)) (hw _ (List.mem_of_getElem? (i := 18) rfl)) (by decide) (a := b55) p56_0 (rm_up l Z a0 hw b55 v75 v4 T56.heap n0 Z56 p56_1 p56_2 (own_ne0 hp17)) (by rw [hml]; rfl) rfl [] rfl rfl (W := 0) (Nat.le_of_eq rfl) (by decide) (by decide) (by decide) (by decide) (lenOf pd_1 rfl) (hb hby at_109) rfl fun v57 T57 L57 X57 hQ57 => ?_
            obtain ⟨r_57, rfl, Nq57, eh57, p57_0⟩ := hQ57
            have N57 := Fr.app N56 Nq57
            have hr_57 := p57_0
            show Ga _ _ _ _ _ _ _ _ _ _ _ [(.long r_57)]
            refine g_lstore X57 hx (Ls' := #[.val (.long p0), .second, .val (.long p1), .second, .val (.int p2), .val (.long v4), .second, .val (.long v75), .second, .val (.ref b55), .val (.long r_57), .second, .unset, .unset]) (hb hby at_112) rfl rfl ?_
            refine g_lload X57 hx (hb hby at_114) rfl rfl ?_
            refine g_lconst X57 hx (r := (1 : Int64)) (hb hby at_116) rfl rfl ?_
            refine g_lsub X57 hx (hb hby at_117) rfl rfl ?_
            refine g_lload X57 hx (hb hby at_118) rfl rfl ?_
            refine g_ldiv X57 hx (hb hby at_120) rfl (own_ne0 hp17) rfl ?_
            refine g_lconst X57 hx (r := (1 : Int64)) (hb hby at_121) rfl rfl ?_
            obtain ⟨v122, hv122⟩ : ∃ r, (((v75 - (1 : Int64)) / v4) + (1 : Int64)) = r := ⟨_, rfl⟩
            refine g_ladd X57 hx (hb hby at_122) rfl hv122 ?_
            refine g_lstore X57 hx (Ls' := #[.val (.long p0), .second, .val (.long p1), .second, .val (.int p2), .val (.long v4), .second, .val (.long v75), .second, .val (.ref b55), .val (.long r_57), .second, .val (.long v122), .second]) (hb hby at_123) rfl rfl ?_
            refine g_lload X57 hx (hb hby at_125) rfl rfl ?_
            refine g_lload X57 hx (hb hby at_127) rfl rfl ?_
            refine g_lcmp X57 hx (hb hby at_129) rfl  ?_
            have hc130 : r_57 = v122 := (own_fin (q := v75) (p := v4) (w := v122) hp94 hp17 hr_57 hv122).1
            refine g_ifN X57 hx (hb hby at_130) rfl (XT.ll_ne_f hc130) ?_
            refine g_lload X57 hx (hb hby at_133) rfl rfl ?_
            refine g_lconst X57 hx (r := (1 : Int64)) (hb hby at_135) rfl rfl ?_
            refine g_lcmp X57 hx (hb hby at_136) rfl  ?_
            have hc137 : ¬ r_57 < (1 : Int64) := (own_fin (q := v75) (p := v4) (w := v122) hp94 hp17 hr_57 hv122).2
            refine g_ifN X57 hx (hb hby at_137) rfl (XT.ll_lt_f hc137) ?_
            refine g_iconst X57 hx (r := (1 : Int32)) (hb hby at_140) rfl rfl ?_
            refine g_goto X57 hx (q := 145) (hb hby at_141) (by decide) (by decide) ?_
            exact g_retN X57 hx (t := .boolean) (r := (1 : Int32)) hret (by simp) hlk (hb hby at_145) rfl (by decide) (by decide) (by rw [eh57]; exact ⟨rfl, N57⟩)
      · skip
        refine g_ifN X0 hx (hb hby at_38) rfl (XT.i0_eq_f hc38) ?_
        refine g_lload X0 hx (hb hby at_41) rfl rfl ?_
        refine g_ldc2 X0 hx hZ hown (hw _ (List.mem_of_getElem? (i := 19) rfl)) (hb hby at_43) rfl ?_
        refine g_land X0 hx (hb hby at_46) rfl rfl ?_
        refine g_lconst X0 hx (r := (1 : Int64)) (hb hby at_47) rfl rfl ?_
        obtain ⟨v48, hv48⟩ : ∃ r, ((v4 &&& (7 : Int64)) + (1 : Int64)) = r := ⟨_, rfl⟩
        refine g_ladd X0 hx (hb hby at_48) rfl hv48 ?_
        refine g_lstore X0 hx (Ls' := #[.val (.long p0), .second, .val (.long p1), .second, .val (.int p2), .val (.long v48), .second, .val (.long v21), .second, .unset, .unset, .unset, .unset, .unset]) (hb hby at_49) rfl rfl ?_
        have hp51 : (0 : Int64) < v48 := own_7 hv48
        refine g_lload X0 hx (hb hby at_51) rfl rfl ?_
        refine g_ldc2 X0 hx hZ hown (hw _ (List.mem_of_getElem? (i := 20) rfl)) (hb hby at_53) rfl ?_
        refine g_land X0 hx (hb hby at_56) rfl rfl ?_
        refine g_lconst X0 hx (r := (1 : Int64)) (hb hby at_57) rfl rfl ?_
        obtain ⟨v58, hv58⟩ : ∃ r, ((v21 &&& (63 : Int64)) + (1 : Int64)) = r := ⟨_, rfl⟩
        refine g_ladd X0 hx (hb hby at_58) rfl hv58 ?_
        refine g_lstore X0 hx (Ls' := #[.val (.long p0), .second, .val (.long p1), .second, .val (.int p2), .val (.long v48), .second, .val (.long v58), .second, .unset, .unset, .unset, .unset, .unset]) (hb hby at_59) rfl rfl ?_
        have hp61 : (0 : Int64) < v58 := own_63 hv58
        refine g_iload X0 hx (hb hby at_61) rfl rfl ?_
        refine g_iconst X0 hx (r := (1 : Int32)) (hb hby at_63) rfl rfl ?_
        refine g_iand X0 hx (hb hby at_64) rfl rfl ?_
        by_cases hc65 : (p2 &&& (1 : Int32)) = (0 : Int32)
        · skip
          refine g_ifY X0 hx (q := 94) (hb hby at_65) (XT.i0_eq_t hc65) (by decide) (by decide) ?_
          refine g_new X0 hx hZ hown (hw _ (List.mem_of_getElem? (i := 1) rfl)) (hw _ (List.mem_of_getElem? (i := 2) rfl)) (hw _ (List.mem_of_getElem? (i := 3) rfl)) e0 (hb hby at_94) rfl (by decide) (by decide) fun T58 h58 b58 X58 e58 q58 E58 A58 D58 => ?_
          have g_b58 : n0 ≤ b58 := Nat.le_trans Z0 (Nat.le_of_eq q58.symm)
          have Z58 : n0 ≤ h58.size := Nat.le_trans Z0 E58.1
          have F58_quotaMicros : Fld Z h58 b58 "com/example/ely/ely/probe/CpuQuota" "quotaMicros" "J" (.long (0 : Int64)) := D58 (Or.inr (hw _ (List.mem_of_getElem? (i := 11) rfl))) (ty := .long) (by decide)
          have F58_periodMicros : Fld Z h58 b58 "com/example/ely/ely/probe/CpuQuota" "periodMicros" "J" (.long (0 : Int64)) := D58 (Or.inr (hw _ (List.mem_of_getElem? (i := 13) rfl))) (ty := .long) (by decide)
          refine g_dup X58 hx (hb hby at_97) rfl rfl ?_
          refine g_lload X58 hx (hb hby at_98) rfl rfl ?_
          refine g_lload X58 hx (hb hby at_100) rfl rfl ?_
          refine g_special X58 hx hZ hown rfl (hw _ (List.mem_of_getElem? (i := 4) rfl)) (hw _ (List.mem_of_getElem? (i := 5) rfl)) (hw _ (List.mem_of_getElem? (i := 3) rfl)) (hw _ (List.mem_of_getElem? (i := 6) rfl)) (by decide) (a := b58) (rm_ini l Z a0 hw b58 v58 v48 h58 n0 Z58 F58_quotaMicros F58_periodMicros A58 g_b58 hp61 hp51) (by rw [hml]; rfl) e58 [(.long v58), (.long v48)] rfl rfl (W := 1) (Nat.le_of_eq rfl) (by decide) (by decide) (by decide) (by decide) (lenOf pd_0 rfl) (hb hby at_102) rfl fun v59 T59 L59 X59 hQ59 => ?_
          obtain ⟨rfl, Nq59, kc59, p59_0, p59_1, p59_2⟩ := hQ59
          have N59 := Fr.app N0 Nq59
          have Z59 : n0 ≤ T59.heap.size := Nat.le_trans Z58 kc59.1
          show Ga _ _ _ _ _ _ _ _ _ _ _ [(.ref b58)]
          refine g_astore X59 hx (Ls' := #[.val (.long p0), .second, .val (.long p1), .second, .val (.int p2), .val (.long v48), .second, .val (.long v58), .second, .val (.ref b58), .unset, .unset, .unset, .unset]) (hb hby at_105) rfl rfl rfl ?_
          refine g_aload X59 hx (hb hby at_107) rfl rfl rfl ?_
          refine g_virtual X59 hx hZ hown (hw _ (List.mem_of_getElem? (i := 14) rfl)) (hw _ (List.mem_of_getElem? (i := 15) rfl)) (notFace_of_selects (args := #[]) (mvT hZ (hw _ (List.mem_of_getElem? (i := 17) rfl)))) (hw _ (List.mem_of_getElem? (i := 17) rfl)) (hw _ (List.mem_of_getElem? (i := 16) rfl)) (hw _ (List.mem_of_getElem? (i := 3) rfl)) (hw _ (List.mem_of_getElem? (i := 18) rfl)) (by decide) (a := b58) p59_0 (rm_up l Z a0 hw b58 v58 v48 T59.heap n0 Z59 p59_1 p59_2 (own_ne0 hp51)) (by rw [hml]; rfl) rfl [] rfl rfl (W := 0) (Nat.le_of_eq rfl) (by decide) (by decide) (by decide) (by decide) (lenOf pd_1 rfl) (hb hby at_109) rfl fun v60 T60 L60 X60 hQ60 => ?_
          obtain ⟨r_60, rfl, Nq60, eh60, p60_0⟩ := hQ60
          have N60 := Fr.app N59 Nq60
          have hr_60 := p60_0
          show Ga _ _ _ _ _ _ _ _ _ _ _ [(.long r_60)]
          refine g_lstore X60 hx (Ls' := #[.val (.long p0), .second, .val (.long p1), .second, .val (.int p2), .val (.long v48), .second, .val (.long v58), .second, .val (.ref b58), .val (.long r_60), .second, .unset, .unset]) (hb hby at_112) rfl rfl ?_
          refine g_lload X60 hx (hb hby at_114) rfl rfl ?_
          refine g_lconst X60 hx (r := (1 : Int64)) (hb hby at_116) rfl rfl ?_
          refine g_lsub X60 hx (hb hby at_117) rfl rfl ?_
          refine g_lload X60 hx (hb hby at_118) rfl rfl ?_
          refine g_ldiv X60 hx (hb hby at_120) rfl (own_ne0 hp51) rfl ?_
          refine g_lconst X60 hx (r := (1 : Int64)) (hb hby at_121) rfl rfl ?_
          obtain ⟨v122, hv122⟩ : ∃ r, (((v58 - (1 : Int64)) / v48) + (1 : Int64)) = r := ⟨_, rfl⟩
          refine g_ladd X60 hx (hb hby at_122) rfl hv122 ?_
          refine g_lstore X60 hx (Ls' := #[.val (.long p0), .second, .val (.long p1), .second, .val (.int p2), .val (.long v48), .second, .val (.long v58), .second, .val (.ref b58), .val (.long r_60), .second, .val (.long v122), .second]) (hb hby at_123) rfl rfl ?_
          refine g_lload X60 hx (hb hby at_125) rfl rfl ?_
          refine g_lload X60 hx (hb hby at_127) rfl rfl ?_
          refine g_lcmp X60 hx (hb hby at_129) rfl  ?_
          have hc130 : r_60 = v122 := (own_fin (q := v58) (p := v48) (w := v122) hp61 hp51 hr_60 hv122).1
          refine g_ifN X60 hx (hb hby at_130) rfl (XT.ll_ne_f hc130) ?_
          refine g_lload X60 hx (hb hby at_133) rfl rfl ?_
          refine g_lconst X60 hx (r := (1 : Int64)) (hb hby at_135) rfl rfl ?_
          refine g_lcmp X60 hx (hb hby at_136) rfl  ?_
          have hc137 : ¬ r_60 < (1 : Int64) := (own_fin (q := v58) (p := v48) (w := v122) hp61 hp51 hr_60 hv122).2
          refine g_ifN X60 hx (hb hby at_137) rfl (XT.ll_lt_f hc137) ?_
          refine g_iconst X60 hx (r := (1 : Int32)) (hb hby at_140) rfl rfl ?_
          refine g_goto X60 hx (q := 145) (hb hby at_141) (by decide) (by decide) ?_
          exact g_retN X60 hx (t := .boolean) (r := (1 : Int32)) hret (by simp) hlk (hb hby at_145) rfl (by decide) (by decide) (by rw [eh60]; exact ⟨rfl, N60⟩)
        · skip
          refine g_ifN X0 hx (hb hby at_65) rfl (XT.i0_eq_f hc65) ?_
          refine g_lload X0 hx (hb hby at_68) rfl rfl ?_
          refine g_lload X0 hx (hb hby at_70) rfl rfl ?_
          refine g_lload X0 hx (hb hby at_72) rfl rfl ?_
          refine g_lrem X0 hx (hb hby at_74) rfl (own_ne0 hp51) rfl ?_
          obtain ⟨v75, hv75⟩ : ∃ r, (v58 - (v58 % v48)) = r := ⟨_, rfl⟩
          refine g_lsub X0 hx (hb hby at_75) rfl hv75 ?_
          refine g_lstore X0 hx (Ls' := #[.val (.long p0), .second, .val (.long p1), .second, .val (.int p2), .val (.long v48), .second, .val (.long v58), .second, .val (.long v75), .second, .unset, .unset, .unset]) (hb hby at_76) rfl rfl ?_
          refine g_lload X0 hx (hb hby at_78) rfl rfl ?_
          refine g_lconst X0 hx (r := (0 : Int64)) (hb hby at_80) rfl rfl ?_
          refine g_lcmp X0 hx (hb hby at_81) rfl  ?_
          by_cases hc82 : v75 = (0 : Int64)
          · skip
            refine g_ifN X0 hx (hb hby at_82) rfl (XT.ll_ne_f hc82) ?_
            refine g_lload X0 hx (hb hby at_85) rfl rfl ?_
            refine g_goto X0 hx (q := 92) (hb hby at_87) (by decide) (by decide) ?_
            refine g_lstore X0 hx (Ls' := #[.val (.long p0), .second, .val (.long p1), .second, .val (.int p2), .val (.long v48), .second, .val (.long v48), .second, .val (.long v75), .second, .unset, .unset, .unset]) (hb hby at_92) rfl rfl ?_
            refine g_new X0 hx hZ hown (hw _ (List.mem_of_getElem? (i := 1) rfl)) (hw _ (List.mem_of_getElem? (i := 2) rfl)) (hw _ (List.mem_of_getElem? (i := 3) rfl)) e0 (hb hby at_94) rfl (by decide) (by decide) fun T61 h61 b61 X61 e61 q61 E61 A61 D61 => ?_
            have g_b61 : n0 ≤ b61 := Nat.le_trans Z0 (Nat.le_of_eq q61.symm)
            have Z61 : n0 ≤ h61.size := Nat.le_trans Z0 E61.1
            have F61_quotaMicros : Fld Z h61 b61 "com/example/ely/ely/probe/CpuQuota" "quotaMicros" "J" (.long (0 : Int64)) := D61 (Or.inr (hw _ (List.mem_of_getElem? (i := 11) rfl))) (ty := .long) (by decide)
            have F61_periodMicros : Fld Z h61 b61 "com/example/ely/ely/probe/CpuQuota" "periodMicros" "J" (.long (0 : Int64)) := D61 (Or.inr (hw _ (List.mem_of_getElem? (i := 13) rfl))) (ty := .long) (by decide)
            refine g_dup X61 hx (hb hby at_97) rfl rfl ?_
            refine g_lload X61 hx (hb hby at_98) rfl rfl ?_
            refine g_lload X61 hx (hb hby at_100) rfl rfl ?_
            refine g_special X61 hx hZ hown rfl (hw _ (List.mem_of_getElem? (i := 4) rfl)) (hw _ (List.mem_of_getElem? (i := 5) rfl)) (hw _ (List.mem_of_getElem? (i := 3) rfl)) (hw _ (List.mem_of_getElem? (i := 6) rfl)) (by decide) (a := b61) (rm_ini l Z a0 hw b61 v48 v48 h61 n0 Z61 F61_quotaMicros F61_periodMicros A61 g_b61 hp51 hp51) (by rw [hml]; rfl) e61 [(.long v48), (.long v48)] rfl rfl (W := 1) (Nat.le_of_eq rfl) (by decide) (by decide) (by decide) (by decide) (lenOf pd_0 rfl) (hb hby at_102) rfl fun v62 T62 L62 X62 hQ62 => ?_
            obtain ⟨rfl, Nq62, kc62, p62_0, p62_1, p62_2⟩ := hQ62
            have N62 := Fr.app N0 Nq62
            have Z62 : n0 ≤ T62.heap.size := Nat.le_trans Z61 kc62.1
            show Ga _ _ _ _ _ _ _ _ _ _ _ [(.ref b61)]
            refine g_astore X62 hx (Ls' := #[.val (.long p0), .second, .val (.long p1), .second, .val (.int p2), .val (.long v48), .second, .val (.long v48), .second, .val (.ref b61), .unset, .unset, .unset, .unset]) (hb hby at_105) rfl rfl rfl ?_
            refine g_aload X62 hx (hb hby at_107) rfl rfl rfl ?_
            refine g_virtual X62 hx hZ hown (hw _ (List.mem_of_getElem? (i := 14) rfl)) (hw _ (List.mem_of_getElem? (i := 15) rfl)) (notFace_of_selects (args := #[]) (mvT hZ (hw _ (List.mem_of_getElem? (i := 17) rfl)))) (hw _ (List.mem_of_getElem? (i := 17) rfl)) (hw _ (List.mem_of_getElem? (i := 16) rfl)) (hw _ (List.mem_of_getElem? (i := 3) rfl)) (hw _ (List.mem_of_getElem? (i := 18) rfl)) (by decide) (a := b61) p62_0 (rm_up l Z a0 hw b61 v48 v48 T62.heap n0 Z62 p62_1 p62_2 (own_ne0 hp51)) (by rw [hml]; rfl) rfl [] rfl rfl (W := 0) (Nat.le_of_eq rfl) (by decide) (by decide) (by decide) (by decide) (lenOf pd_1 rfl) (hb hby at_109) rfl fun v63 T63 L63 X63 hQ63 => ?_
            obtain ⟨r_63, rfl, Nq63, eh63, p63_0⟩ := hQ63
            have N63 := Fr.app N62 Nq63
            have hr_63 := p63_0
            show Ga _ _ _ _ _ _ _ _ _ _ _ [(.long r_63)]
            refine g_lstore X63 hx (Ls' := #[.val (.long p0), .second, .val (.long p1), .second, .val (.int p2), .val (.long v48), .second, .val (.long v48), .second, .val (.ref b61), .val (.long r_63), .second, .unset, .unset]) (hb hby at_112) rfl rfl ?_
            refine g_lload X63 hx (hb hby at_114) rfl rfl ?_
            refine g_lconst X63 hx (r := (1 : Int64)) (hb hby at_116) rfl rfl ?_
            refine g_lsub X63 hx (hb hby at_117) rfl rfl ?_
            refine g_lload X63 hx (hb hby at_118) rfl rfl ?_
            refine g_ldiv X63 hx (hb hby at_120) rfl (own_ne0 hp51) rfl ?_
            refine g_lconst X63 hx (r := (1 : Int64)) (hb hby at_121) rfl rfl ?_
            obtain ⟨v122, hv122⟩ : ∃ r, (((v48 - (1 : Int64)) / v48) + (1 : Int64)) = r := ⟨_, rfl⟩
            refine g_ladd X63 hx (hb hby at_122) rfl hv122 ?_
            refine g_lstore X63 hx (Ls' := #[.val (.long p0), .second, .val (.long p1), .second, .val (.int p2), .val (.long v48), .second, .val (.long v48), .second, .val (.ref b61), .val (.long r_63), .second, .val (.long v122), .second]) (hb hby at_123) rfl rfl ?_
            refine g_lload X63 hx (hb hby at_125) rfl rfl ?_
            refine g_lload X63 hx (hb hby at_127) rfl rfl ?_
            refine g_lcmp X63 hx (hb hby at_129) rfl  ?_
            have hc130 : r_63 = v122 := (own_fin (q := v48) (p := v48) (w := v122) hp51 hp51 hr_63 hv122).1
            refine g_ifN X63 hx (hb hby at_130) rfl (XT.ll_ne_f hc130) ?_
            refine g_lload X63 hx (hb hby at_133) rfl rfl ?_
            refine g_lconst X63 hx (r := (1 : Int64)) (hb hby at_135) rfl rfl ?_
            refine g_lcmp X63 hx (hb hby at_136) rfl  ?_
            have hc137 : ¬ r_63 < (1 : Int64) := (own_fin (q := v48) (p := v48) (w := v122) hp51 hp51 hr_63 hv122).2
            refine g_ifN X63 hx (hb hby at_137) rfl (XT.ll_lt_f hc137) ?_
            refine g_iconst X63 hx (r := (1 : Int32)) (hb hby at_140) rfl rfl ?_
            refine g_goto X63 hx (q := 145) (hb hby at_141) (by decide) (by decide) ?_
            exact g_retN X63 hx (t := .boolean) (r := (1 : Int32)) hret (by simp) hlk (hb hby at_145) rfl (by decide) (by decide) (by rw [eh63]; exact ⟨rfl, N63⟩)
          · skip
            refine g_ifY X0 hx (q := 90) (hb hby at_82) (XT.ll_ne_t hc82) (by decide) (by decide) ?_
            refine g_lload X0 hx (hb hby at_90) rfl rfl ?_
            refine g_lstore X0 hx (Ls' := #[.val (.long p0), .second, .val (.long p1), .second, .val (.int p2), .val (.long v48), .second, .val (.long v75), .second, .val (.long v75), .second, .unset, .unset, .unset]) (hb hby at_92) rfl rfl ?_
            have hp94 : (0 : Int64) < v75 := own_d hp61 hp51 hv75 hc82
            refine g_new X0 hx hZ hown (hw _ (List.mem_of_getElem? (i := 1) rfl)) (hw _ (List.mem_of_getElem? (i := 2) rfl)) (hw _ (List.mem_of_getElem? (i := 3) rfl)) e0 (hb hby at_94) rfl (by decide) (by decide) fun T64 h64 b64 X64 e64 q64 E64 A64 D64 => ?_
            have g_b64 : n0 ≤ b64 := Nat.le_trans Z0 (Nat.le_of_eq q64.symm)
            have Z64 : n0 ≤ h64.size := Nat.le_trans Z0 E64.1
            have F64_quotaMicros : Fld Z h64 b64 "com/example/ely/ely/probe/CpuQuota" "quotaMicros" "J" (.long (0 : Int64)) := D64 (Or.inr (hw _ (List.mem_of_getElem? (i := 11) rfl))) (ty := .long) (by decide)
            have F64_periodMicros : Fld Z h64 b64 "com/example/ely/ely/probe/CpuQuota" "periodMicros" "J" (.long (0 : Int64)) := D64 (Or.inr (hw _ (List.mem_of_getElem? (i := 13) rfl))) (ty := .long) (by decide)
            refine g_dup X64 hx (hb hby at_97) rfl rfl ?_
            refine g_lload X64 hx (hb hby at_98) rfl rfl ?_
            refine g_lload X64 hx (hb hby at_100) rfl rfl ?_
            refine g_special X64 hx hZ hown rfl (hw _ (List.mem_of_getElem? (i := 4) rfl)) (hw _ (List.mem_of_getElem? (i := 5) rfl)) (hw _ (List.mem_of_getElem? (i := 3) rfl)) (hw _ (List.mem_of_getElem? (i := 6) rfl)) (by decide) (a := b64) (rm_ini l Z a0 hw b64 v75 v48 h64 n0 Z64 F64_quotaMicros F64_periodMicros A64 g_b64 hp94 hp51) (by rw [hml]; rfl) e64 [(.long v75), (.long v48)] rfl rfl (W := 1) (Nat.le_of_eq rfl) (by decide) (by decide) (by decide) (by decide) (lenOf pd_0 rfl) (hb hby at_102) rfl fun v65 T65 L65 X65 hQ65 => ?_
            obtain ⟨rfl, Nq65, kc65, p65_0, p65_1, p65_2⟩ := hQ65
            have N65 := Fr.app N0 Nq65
            have Z65 : n0 ≤ T65.heap.size := Nat.le_trans Z64 kc65.1
            show Ga _ _ _ _ _ _ _ _ _ _ _ [(.ref b64)]
            refine g_astore X65 hx (Ls' := #[.val (.long p0), .second, .val (.long p1), .second, .val (.int p2), .val (.long v48), .second, .val (.long v75), .second, .val (.ref b64), .unset, .unset, .unset, .unset]) (hb hby at_105) rfl rfl rfl ?_
            refine g_aload X65 hx (hb hby at_107) rfl rfl rfl ?_
            refine g_virtual X65 hx hZ hown (hw _ (List.mem_of_getElem? (i := 14) rfl)) (hw _ (List.mem_of_getElem? (i := 15) rfl)) (notFace_of_selects (args := #[]) (mvT hZ (hw _ (List.mem_of_getElem? (i := 17) rfl)))) (hw _ (List.mem_of_getElem? (i := 17) rfl)) (hw _ (List.mem_of_getElem? (i := 16) rfl)) (hw _ (List.mem_of_getElem? (i := 3) rfl)) (hw _ (List.mem_of_getElem? (i := 18) rfl)) (by decide) (a := b64) p65_0 (rm_up l Z a0 hw b64 v75 v48 T65.heap n0 Z65 p65_1 p65_2 (own_ne0 hp51)) (by rw [hml]; rfl) rfl [] rfl rfl (W := 0) (Nat.le_of_eq rfl) (by decide) (by decide) (by decide) (by decide) (lenOf pd_1 rfl) (hb hby at_109) rfl fun v66 T66 L66 X66 hQ66 => ?_
            obtain ⟨r_66, rfl, Nq66, eh66, p66_0⟩ := hQ66
            have N66 := Fr.app N65 Nq66
            have hr_66 := p66_0
            show Ga _ _ _ _ _ _ _ _ _ _ _ [(.long r_66)]
            refine g_lstore X66 hx (Ls' := #[.val (.long p0), .second, .val (.long p1), .second, .val (.int p2), .val (.long v48), .second, .val (.long v75), .second, .val (.ref b64), .val (.long r_66), .second, .unset, .unset]) (hb hby at_112) rfl rfl ?_
            refine g_lload X66 hx (hb hby at_114) rfl rfl ?_
            refine g_lconst X66 hx (r := (1 : Int64)) (hb hby at_116) rfl rfl ?_
            refine g_lsub X66 hx (hb hby at_117) rfl rfl ?_
            refine g_lload X66 hx (hb hby at_118) rfl rfl ?_
            refine g_ldiv X66 hx (hb hby at_120) rfl (own_ne0 hp51) rfl ?_
            refine g_lconst X66 hx (r := (1 : Int64)) (hb hby at_121) rfl rfl ?_
            obtain ⟨v122, hv122⟩ : ∃ r, (((v75 - (1 : Int64)) / v48) + (1 : Int64)) = r := ⟨_, rfl⟩
            refine g_ladd X66 hx (hb hby at_122) rfl hv122 ?_
            refine g_lstore X66 hx (Ls' := #[.val (.long p0), .second, .val (.long p1), .second, .val (.int p2), .val (.long v48), .second, .val (.long v75), .second, .val (.ref b64), .val (.long r_66), .second, .val (.long v122), .second]) (hb hby at_123) rfl rfl ?_
            refine g_lload X66 hx (hb hby at_125) rfl rfl ?_
            refine g_lload X66 hx (hb hby at_127) rfl rfl ?_
            refine g_lcmp X66 hx (hb hby at_129) rfl  ?_
            have hc130 : r_66 = v122 := (own_fin (q := v75) (p := v48) (w := v122) hp94 hp51 hr_66 hv122).1
            refine g_ifN X66 hx (hb hby at_130) rfl (XT.ll_ne_f hc130) ?_
            refine g_lload X66 hx (hb hby at_133) rfl rfl ?_
            refine g_lconst X66 hx (r := (1 : Int64)) (hb hby at_135) rfl rfl ?_
            refine g_lcmp X66 hx (hb hby at_136) rfl  ?_
            have hc137 : ¬ r_66 < (1 : Int64) := (own_fin (q := v75) (p := v48) (w := v122) hp94 hp51 hr_66 hv122).2
            refine g_ifN X66 hx (hb hby at_137) rfl (XT.ll_lt_f hc137) ?_
            refine g_iconst X66 hx (r := (1 : Int32)) (hb hby at_140) rfl rfl ?_
            refine g_goto X66 hx (q := 145) (hb hby at_141) (by decide) (by decide) ?_
            exact g_retN X66 hx (t := .boolean) (r := (1 : Int32)) hret (by simp) hlk (hb hby at_145) rfl (by decide) (by decide) (by rw [eh66]; exact ⟨rfl, N66⟩)
set_option maxRecDepth 65536 in
set_option maxHeartbeats 40000000 in
theorem comes_1 {Post : Tables → Env → Array Value → State → Outcome → State → Prop} (hpost : ∀ tb e args s v u, (limb_1_1.after args s (.returned v) u = true ∧ limb_1_2.after args s (.returned v) u = true ∧ True) → FrameEnd s (.returned v) u (Jvm.fieldLocs frame_1_writes args s ++ Jvm.arrayLocs frame_1_arrays args s ++ Jvm.staticLocs frame_1_statics s) 16 128 → Post tb e args s (.returned v) u) :
    ArmFor flags0 classFile x code maxLocals ret World_1 tables_1 room_1 Calls_1 rest_1 Pre_1 Post := by
  intro l hfl _ _ p e ha hc hk s m args below hf hA hF happ hP
  obtain ⟨hcalls, hrest, hpre⟩ := hP
  obtain ⟨-, -, -, hnamed, -, -, -, hat⟩ := (Spec.applies_iff hf).mp happ
  obtain ⟨hg, hn⟩ := and_e (Cond.before_iff.mp (show (Jvm.Cond.and given_1 narrow_1).before args s = true from hpre))
  obtain ⟨hcn, hg1⟩ := and_e hg
  obtain ⟨k1, hg2⟩ := and_e hg1
  obtain ⟨k2, hg3⟩ := and_e hg2
  have k3 := hg3
  obtain ⟨w0, w1, w2, rfl⟩ : ∃ w0 w1 w2 : Value, args = #[w0, w1, w2] := by
    have hs : args.size = 3 := by simpa [Cond.value, given_1] using hcn
    obtain ⟨L⟩ := args
    match L, hs with
    | [w0, w1, w2], _ => exact ⟨w0, w1, w2, rfl⟩
  have hw := fun d (hd : d ∈ tables_1) => atoms_spec (ws := Jvm.Cond.code x code maxLocals ret :: tables_1) hat d (List.mem_cons_of_mem _ hd)
  have hfit : Fit s := fun {y c} hc i hi => by
    obtain ⟨ha, rfl⟩ := Array.getElem?_eq_some_iff.mp hc
    have q := List.all_eq_true.mp ((Array.all_eq_true_iff_forall_mem.mp hF) _ (Array.getElem_mem ha)) i (List.mem_range.mpr hi)
    simpa [Array.getElem?_eq_getElem hi] using q
  obtain ⟨i0, ei0⟩ := isL_v k1
  obtain rfl : w0 = (.long i0) := Option.some.inj ei0
  obtain ⟨i1, ei1⟩ := isL_v k2
  obtain rfl : w1 = (.long i1) := Option.some.inj ei1
  obtain ⟨i2, ei2⟩ := is_v k3
  obtain rfl : w2 = (.int i2) := Option.some.inj ei2
  obtain ⟨n, o, h1, h2, h3, _, L, rfl, ⟨rfl, N⟩, hq⟩ := rm_law l s _ hw tables_1 i0 i1 i2 s.heap s.heap.size (Nat.le_refl _) p e ha hc hk s m _ below hf ((Spec.applies_iff_loose hf).mp happ).1 ⟨rfl, State.Warmed39.refl s, rfl⟩ trivial
  refine ⟨n, _, h1, h2, h3, hpost _ _ _ _ _ _ ⟨Cond.after_iff.mpr rfl, Cond.after_iff.mpr (eq_i res_at (Term.int_eval (1)) rfl), trivial⟩ ⟨hq.1, hq.2.1, (hq.2.2.sift fun y hy => Or.inr (N y hy)).mono (by decide) (by decide)⟩⟩
theorem main_1_1 : Claimed_1_1 := comes_1 fun _ _ _ _ _ _ h hF => ⟨h.1, hF⟩
theorem main_1_2 : Claimed_1_2 := comes_1 fun _ _ _ _ _ _ h hF => ⟨h.2.1, hF⟩
end Jvm.Pilot.@@N@@
namespace Jvm.Pilot.@@N@@
open Jvm Jvm.ClassFile Sem Op Lib Jvm.Free Jvm.Stand Jvm.Pilot.@@N@@.Jvm.D
/-! MADE BY PROGRAM (witnessworld.py) out of the Statement's table words and the real class files: 9 classes; the members and pool entries that the words name. The judged class is class 1, her method 1. -/
namespace start1
open Jvm.ClassFile
def u (s : String) : CpInfo := .utf8 (stringToUtf16 s)
/-- a pool by its gaps: so many unusable entries, then the entry; so many at the end -/
def gap : Nat → List CpInfo → List CpInfo
  | 0, r => r
  | n + 1, r => .unusable :: gap n r
def poolList (es : List (Nat × CpInfo)) (last : Nat) : List CpInfo := es.foldr (fun e r => gap e.1 (e.2 :: r)) (gap last [])
def pool (es : List (Nat × CpInfo)) (last : Nat) : Array CpInfo := ⟨poolList es last⟩
def fileOf (pool : Array CpInfo) (this : Nat) (attrs : Array Attribute := #[]) (ms : Array MethodInfo := #[]) (fl : Nat := 33) (sup : Nat := 0) (ifs : Array Nat := #[]) (fds : Array FieldInfo := #[]) : ClassFile where
  minorVersion := 0
  majorVersion := 65
  constantPool := pool
  accessFlags := fl
  thisClass := this
  superClass := sup
  interfaces := ifs
  fields := fds
  methods := ms
  attributes := attrs
def plain (name : String) (sup : Option ClassId) : Class where
  name := name
  kind := .ordinary
  loader := none
  accessFlags := 33
  super := sup
  interfaces := #[]
  cf := none
  fields := #[]
  methods := #[]
  instanceTypes := #[]
  staticTypes := #[]
  resolved := #[]
  callSites := []
  init := .initialized
  statics := none
  mirror := none

def pool0 : Array CpInfo := pool [(5, u "<init>"), (0, u "()V"), (1, .class_ 10), (1, u "java/lang/Object")] 113

def k0c0 : Code := { maxStack := 0, maxLocals := 1, code := object_method_1_code, exceptionTable := #[], attributes := #[] }
def k0m0 : Method := { name := "<init>", desc := "()V", sig := { parameters := [], returnType := none }, accessFlags := 1, code := some k0c0 }
/-- java/lang/Object -/
def k0 : Class := { plain "java/lang/Object" none with
  accessFlags := 33
  interfaces := #[]
  cf := some (fileOf pool0 8 #[] #[{ accessFlags := 1, nameIndex := 5, descriptorIndex := 6, attributes := #[] }] 33 0 #[] #[])
  fields := #[]
  methods := #[k0m0]
  instanceTypes := #[]
  staticTypes := #[]
  resolved := Array.replicate 124 none
  statics := none }

def pool1 : Array CpInfo := pool [(2, .class_ 4), (1, u "java/lang/Object"), (0, u "<init>"), (0, u "()V"), (2, .long 9223372036854775807), (1, .long 7), (1, .long 63), (1, .class_ 16), (0, u "com/example/ely/ely/probe/CpuQuota"), (0, .methodref 15 18), (0, .nameAndType 5 19), (0, u "(JJ)V"), (0, .methodref 15 21), (0, .nameAndType 22 23), (0, u "cpusRoundedUp"), (0, u "()J"), (0, .class_ 25), (0, u "com/example/ely/ely/probe/CpuQuotaCpusRoundedUpPinLaw"), (2, u "law"), (0, u "(JJI)Z")] 3

def k1m0 : Method := { name := "<init>", desc := "()V", sig := { parameters := [], returnType := none }, accessFlags := 2, code := none }
def k1c1 : Code := { maxStack := 6, maxLocals := 14, code := code, exceptionTable := #[], attributes := #[] }
def k1m1 : Method := { name := "law", desc := "(JJI)Z", sig := { parameters := [.long, .long, .int], returnType := some .boolean }, accessFlags := 9, code := some k1c1 }
/-- com/example/ely/ely/probe/CpuQuotaCpusRoundedUpPinLaw -/
def k1 : Class := { plain "com/example/ely/ely/probe/CpuQuotaCpusRoundedUpPinLaw" (some 0) with
  accessFlags := 49
  interfaces := #[]
  cf := some (fileOf pool1 24 #[] #[{ accessFlags := 2, nameIndex := 5, descriptorIndex := 6, attributes := #[] }, { accessFlags := 9, nameIndex := 28, descriptorIndex := 29, attributes := #[] }] 49 2 #[] #[])
  fields := #[]
  methods := #[k1m0, k1m1]
  instanceTypes := #[]
  staticTypes := #[]
  resolved := Array.replicate 33 none
  statics := none }

def pool2 : Array CpInfo := pool [(1, .methodref 2 3), (0, .class_ 4), (0, .nameAndType 5 6), (0, u "java/lang/Object"), (0, u "<init>"), (0, u "()V"), (9, .fieldref 17 18), (0, .class_ 19), (0, .nameAndType 20 21), (0, u "com/example/ely/ely/probe/CpuQuota"), (0, u "quotaMicros"), (0, u "J"), (0, .fieldref 17 23), (0, .nameAndType 24 21), (0, u "periodMicros"), (36, u "(JJ)V"), (35, u "NO_LIMIT"), (0, u "Ljava/lang/String;"), (1, u "CFS_NO_LIMIT"), (0, u "CPU_MAX_FORM"), (0, u "CFS_QUOTA_FORM"), (0, u "CFS_PERIOD_FORM"), (12, u "()J"), (2, u "cpusRoundedUp")] 34

def k2c0 : Code := { maxStack := 6, maxLocals := 5, code := prog_62_method_1_code, exceptionTable := #[], attributes := #[] }
def k2m0 : Method := { name := "<init>", desc := "(JJ)V", sig := { parameters := [.long, .long], returnType := none }, accessFlags := 1, code := some k2c0 }
def k2c1 : Code := { maxStack := 6, maxLocals := 1, code := prog_62_method_8_code, exceptionTable := #[], attributes := #[] }
def k2m1 : Method := { name := "cpusRoundedUp", desc := "()J", sig := { parameters := [], returnType := some .long }, accessFlags := 1, code := some k2c1 }
/-- com/example/ely/ely/probe/CpuQuota -/
def k2 : Class := { plain "com/example/ely/ely/probe/CpuQuota" (some 0) with
  accessFlags := 49
  interfaces := #[]
  cf := some (fileOf pool2 17 #[] #[{ accessFlags := 1, nameIndex := 5, descriptorIndex := 61, attributes := #[] }, { accessFlags := 1, nameIndex := 119, descriptorIndex := 116, attributes := #[] }] 49 2 #[] #[{ accessFlags := 26, nameIndex := 97, descriptorIndex := 98, attributes := #[] }, { accessFlags := 26, nameIndex := 100, descriptorIndex := 98, attributes := #[] }, { accessFlags := 26, nameIndex := 101, descriptorIndex := 98, attributes := #[] }, { accessFlags := 26, nameIndex := 102, descriptorIndex := 98, attributes := #[] }, { accessFlags := 26, nameIndex := 103, descriptorIndex := 98, attributes := #[] }, { accessFlags := 18, nameIndex := 20, descriptorIndex := 21, attributes := #[] }, { accessFlags := 18, nameIndex := 24, descriptorIndex := 21, attributes := #[] }])
  fields := #[{ name := "NO_LIMIT", type := (.object "java/lang/String"), accessFlags := 26, slot := 0, constantValue := 0 }, { name := "CFS_NO_LIMIT", type := (.object "java/lang/String"), accessFlags := 26, slot := 1, constantValue := 0 }, { name := "CPU_MAX_FORM", type := (.object "java/lang/String"), accessFlags := 26, slot := 2, constantValue := 0 }, { name := "CFS_QUOTA_FORM", type := (.object "java/lang/String"), accessFlags := 26, slot := 3, constantValue := 0 }, { name := "CFS_PERIOD_FORM", type := (.object "java/lang/String"), accessFlags := 26, slot := 4, constantValue := 0 }, { name := "quotaMicros", type := .long, accessFlags := 18, slot := 0, constantValue := 0 }, { name := "periodMicros", type := .long, accessFlags := 18, slot := 1, constantValue := 0 }]
  methods := #[k2m0, k2m1]
  instanceTypes := #[.long, .long]
  staticTypes := #[(.object "java/lang/String"), (.object "java/lang/String"), (.object "java/lang/String"), (.object "java/lang/String"), (.object "java/lang/String")]
  resolved := Array.replicate 154 none
  statics := none }

def pool3 : Array CpInfo := pool [(1, u "java/lang/Cloneable"), (0, .class_ 1), (0, u "java/lang/Object"), (0, .class_ 3)] 3

/-- java/lang/Cloneable -/
def k3 : Class := { plain "java/lang/Cloneable" (some 0) with
  accessFlags := 1537
  interfaces := #[]
  cf := some (fileOf pool3 2 #[] #[] 1537 4 #[] #[])
  fields := #[]
  methods := #[]
  instanceTypes := #[]
  staticTypes := #[]
  resolved := Array.replicate 8 none
  statics := none }

def pool4 : Array CpInfo := pool [(1, u "java/io/Serializable"), (0, .class_ 1), (0, u "java/lang/Object"), (0, .class_ 3)] 3

/-- java/io/Serializable -/
def k4 : Class := { plain "java/io/Serializable" (some 0) with
  accessFlags := 1537
  interfaces := #[]
  cf := some (fileOf pool4 2 #[] #[] 1537 4 #[] #[])
  fields := #[]
  methods := #[]
  instanceTypes := #[]
  staticTypes := #[]
  resolved := Array.replicate 8 none
  statics := none }

/-- the primitive byte -/
def k5 : Class := { plain "byte" none with kind := .primitive 'B', accessFlags := 0x411 }
/-- [B -/
def k6 : Class := { plain "[B" (some 0) with kind := .array 5 .byte, interfaces := #[3, 4], accessFlags := 1041 }

/-- the primitive int -/
def k7 : Class := { plain "int" none with kind := .primitive 'I', accessFlags := 0x411 }
/-- [I -/
def k8 : Class := { plain "[I" (some 0) with kind := .array 7 .int, interfaces := #[3, 4], accessFlags := 1041 }

def heap : Heap := #[]
def classes : Array Class := #[k0, k1, k2, k3, k4, k5, k6, k7, k8]
def interned : List (Array UInt16 × Addr) := []
def slotsUsed : Nat := 0
def theMethod : MethodId := ⟨1, 1⟩
def args0 : Array Value := #[.long 5, .long 7, .int 3]
def aboutOver (below : List Frame) : State where
  vm := { classes := classes, interned := interned.toArray }
  heap := heap
  slotsUsed := slotsUsed
  threads := #[{ frames := .invoking theMethod args0 :: below }]
def below0 : List Frame := [.native { method := ⟨0, 0⟩, args := #[] }]
def about1 : State := aboutOver below0
def p0 : Program := .bare "" "" ""
def e0 : Env := launch0.env 0 0 0
theorem w_frames : about1.frames = Frame.invoking theMethod args0 :: below0 := rfl
set_option maxRecDepth 65536 in
theorem w_args : argsFit about1.vm theMethod args0 = true := by decide +kernel
set_option maxRecDepth 65536 in
theorem w_heap : heapFits about1 = true := by decide +kernel
set_option maxRecDepth 65536 in
theorem w_runnable : about1.curStatus? = some .runnable := by decide +kernel
set_option maxRecDepth 65536 in
theorem w_alone : about1.alone = true := by decide +kernel
set_option maxRecDepth 65536 in
theorem w_named : about1.methodNamed? x = some theMethod := by decide +kernel
set_option maxRecDepth 65536 in
theorem w_hears : about1.hears theMethod below0 = true := by decide +kernel
set_option maxRecDepth 65536 in
theorem w_ripe : about1.ripe theMethod args0 below0 = true := by decide +kernel
theorem w_running : about1.status = .running := rfl
set_option maxRecDepth 65536 in
theorem w_room : about1.hasRoom e0.platform room_1 = true :=
  launch0.hasRoom_least _ room_1 (by decide +kernel) (by decide +kernel) (by decide +kernel) (by decide +kernel) (by decide +kernel) (by decide +kernel)
theorem allAtoms_all (ts : List Jvm.Cond) (a : Array Jvm.Value) (st : Jvm.State) : (allAtoms ts).before a st = ts.all (fun c => c.before a st) := by
  induction ts with
  | nil => rfl
  | cons c t ih =>
    show (Jvm.Cond.and c (allAtoms t)).before a st = _
    rw [Jvm.Cond.before_and, ih, List.all_cons]
def words1 : List Jvm.Cond := Jvm.Cond.code x code maxLocals ret :: tables_1
/-- a 'code' word, met by the world's own term for the bytes: nothing is compared byte by byte -/
theorem code_word {y : MethodName} {bytes : ByteArray} {mx : Nat} {rt : Option FieldType} {a : Array Value} {s : State} {m : MethodId} {meth : Method} {c : Code} (h1 : s.methodNamed? y = some m) (h2 : s.vm.method? m = some meth) (h3 : meth.code = some c) (h4 : c.code = bytes)
    (h5 : (c.maxLocals == mx && c.exceptionTable.isEmpty && decide (c.maxStack ≤ mostOperands) && decide (meth.sig.returnType = rt) && !meth.locks && decide (parseMethodDescriptor y.desc = some meth.sig)) = true) : (Jvm.Cond.code y bytes mx rt).before a s = true := by
  simp only [Bool.and_eq_true, beq_iff_eq, Bool.not_eq_true', decide_eq_true_eq] at h5
  obtain ⟨⟨⟨⟨⟨g1, g2⟩, g3⟩, g4⟩, g5⟩, g6⟩ := h5
  simp [Cond.before, Cond.holds, Cond.value, h1, h2, h3, h4, g1, g2, g3, g4, g5, g6]
def isCode : Jvm.Cond → Bool
  | .code _ _ _ _ => true
  | _ => false
theorem all_split {L : List Jvm.Cond} {P : Jvm.Cond → Bool} (h1 : L.all (fun c => isCode c || P c) = true) (h2 : ∀ c ∈ L.filter isCode, P c = true) : L.all P = true := by
  refine List.all_eq_true.mpr fun c hc => ?_
  have h := List.all_eq_true.mp h1 c hc
  rcases Bool.eq_false_or_eq_true (isCode c) with hi | hi
  · exact h2 c (List.mem_filter.mpr ⟨hc, hi⟩)
  · simpa [hi] using h
set_option maxRecDepth 65536 in
theorem w_c0 : (Jvm.Cond.code x code maxLocals ret).before args0 about1 = true := code_word (m := ⟨1, 1⟩) (meth := k1m1) (c := k1c1) (by decide +kernel) rfl rfl rfl (by decide +kernel)
set_option maxRecDepth 65536 in
theorem w_c1 : (Jvm.Cond.code ({ cls := "com/example/ely/ely/probe/CpuQuota", name := "<init>", desc := "(JJ)V" } : Jvm.MethodName) prog_62_method_1_code (5 : Nat) (Option.none : Option Jvm.ClassFile.FieldType)).before args0 about1 = true := code_word (m := ⟨2, 0⟩) (meth := k2m0) (c := k2c0) (by decide +kernel) rfl rfl rfl (by decide +kernel)
set_option maxRecDepth 65536 in
theorem w_c2 : (Jvm.Cond.code ({ cls := "java/lang/Object", name := "<init>", desc := "()V" } : Jvm.MethodName) object_method_1_code (1 : Nat) (Option.none : Option Jvm.ClassFile.FieldType)).before args0 about1 = true := code_word (m := ⟨0, 0⟩) (meth := k0m0) (c := k0c0) (by decide +kernel) rfl rfl rfl (by decide +kernel)
set_option maxRecDepth 65536 in
theorem w_c3 : (Jvm.Cond.code ({ cls := "com/example/ely/ely/probe/CpuQuota", name := "cpusRoundedUp", desc := "()J" } : Jvm.MethodName) prog_62_method_8_code (1 : Nat) (Option.some Jvm.ClassFile.FieldType.long)).before args0 about1 = true := code_word (m := ⟨2, 1⟩) (meth := k2m1) (c := k2c1) (by decide +kernel) rfl rfl rfl (by decide +kernel)
def codes1 : List Jvm.Cond := [Jvm.Cond.code x code maxLocals ret, Jvm.Cond.code ({ cls := "com/example/ely/ely/probe/CpuQuota", name := "<init>", desc := "(JJ)V" } : Jvm.MethodName) prog_62_method_1_code (5 : Nat) (Option.none : Option Jvm.ClassFile.FieldType), Jvm.Cond.code ({ cls := "java/lang/Object", name := "<init>", desc := "()V" } : Jvm.MethodName) object_method_1_code (1 : Nat) (Option.none : Option Jvm.ClassFile.FieldType), Jvm.Cond.code ({ cls := "com/example/ely/ely/probe/CpuQuota", name := "cpusRoundedUp", desc := "()J" } : Jvm.MethodName) prog_62_method_8_code (1 : Nat) (Option.some Jvm.ClassFile.FieldType.long)]
set_option maxRecDepth 65536 in
theorem codes_eq : words1.filter isCode = codes1 := rfl
theorem w_codes : ∀ c ∈ words1.filter isCode, c.before args0 about1 = true := by
  rw [codes_eq]
  intro c hc
  simp only [codes1, List.mem_cons, List.not_mem_nil, or_false] at hc
  rcases hc with rfl | rfl | rfl | rfl
  · exact w_c0
  · exact w_c1
  · exact w_c2
  · exact w_c3
set_option maxRecDepth 65536 in
theorem w_t1 : words1.all (fun c => isCode c || c.before args0 about1) = true := by decide +kernel
theorem w_tables : (allAtoms (Jvm.Cond.code x code maxLocals ret :: tables_1)).before args0 about1 = true := by
  rw [allAtoms_all]
  show words1.all (fun c => c.before args0 about1) = true
  refine all_split ?_ w_codes
  rw [w_t1]
set_option maxRecDepth 65536 in
theorem w_case : (Jvm.Cond.and given_1 narrow_1).before args0 about1 = true := by decide +kernel
theorem w_applies : (headSpec (Jvm.Cond.code x code maxLocals ret :: tables_1) room_1).applies x e0.platform about1 = true :=
  (Spec.applies_iff w_frames).mpr ⟨w_running, w_runnable, w_alone, w_named, w_hears, w_ripe, w_room, w_tables⟩
theorem atStart : AtStart classFile x code maxLocals ret World_1 tables_1 room_1 Calls_1 rest_1 Pre_1 launch0 p0 e0 about1 theMethod args0 below0 :=
  ⟨lists_1, trivial, launch0.admits_env _ _ _, launch0.least_env, fairChoices_fair.cas, fairChoices_fair.clock, w_frames, w_args, w_heap, w_applies, trivial, trivial, w_case⟩
end start1
theorem witness_1 : WitnessClaimed_1 := ⟨start1.p0, start1.e0, start1.about1, start1.theMethod, start1.args0, start1.below0, start1.atStart⟩
end Jvm.Pilot.@@N@@

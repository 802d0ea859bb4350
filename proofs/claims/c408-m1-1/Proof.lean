import JvmDerived
import JvmDerived.Pilot.@@N@@Statement
import JvmDerived.Pilot.@@N@@Code
set_option linter.unusedVariables false
set_option linter.unusedSimpArgs false
namespace Jvm.Pilot.@@N@@
open Jvm Jvm.ClassFile Sem Op Lib Jvm.Free Jvm.Stand Jvm.LawKit Jvm.RoadKit Bundle Jvm.Pilot.@@N@@.Jvm.D
def Go (p : Program) (e : Env) (below : List Frame) (s : State) (Q : Option Value → Heap → List Loc → Prop) (C S : Nat) (V : State) : Prop :=
  ∃ (U : State) (o : Outcome), Steps p.tables e below V U ∧ U.status = .running ∧ Ended U below o ∧ ∃ v L, o = .returned v ∧ Q v U.heap L ∧ FrameEnd s o U L C S
def Ga (p : Program) (e : Env) (below : List Frame) (s : State) (Q : Option Value → Heap → List Loc → Prop) (C S : Nat) (T : State) (m : MethodId) (pc : Nat) (Ls : Array Slot) (st : List Value) : Prop :=
  Go p e below s Q C S (T.setTop (mkF m pc Ls st))
abbrev Ct (l : Launch) (Z : State) (y : MethodName) (bytes : ByteArray) (maxL : Nat) (ret : Option FieldType) (ws : List Jvm.Cond) (rm : Room) (as' : Array Value) (h0 : Heap) (Q : Option Value → Heap → List Loc → Prop) : Prop :=
  MetFree l y (head1 (Jvm.Cond.code y bytes maxL ret :: ws) rm) (fun a U => a = as' ∧ Z.Warmed39 U.vm ∧ U.heap = h0) (fun _ _ _ _ _ => True) (fun _ U o U' => ∃ v L, o = .returned v ∧ Q v U'.heap L ∧ FrameEnd U o U' L rm.cells rm.slots)
section GoKit
variable {p : Program} {l : Launch} {e : Env} {R : Room} {s : State} {m : MethodId} {args : Array Value} {below : List Frame} {meth : Method} {c : Code} {T T' : State} {locs : List Loc} {cells slots : Nat} {Q : Option Value → Heap → List Loc → Prop} {C S : Nat} {Z : State} {a0 : Array Value} {h : Heap} {pc q pc' : Nat} {Ls Ls' : Array Slot} {st st' : List Value} {own : String}
theorem Ga.stp (k : ∀ t, Steps p.tables e below (T'.setTop (mkF m pc' Ls' st')) t → Steps p.tables e below (T.setTop (mkF m pc Ls st)) t) (g : Ga p e below s Q C S T' m pc' Ls' st') : Ga p e below s Q C S T m pc Ls st := by
  obtain ⟨U, o, h, r⟩ := g
  exact ⟨U, o, k _ h, r⟩
theorem own_body {y : MethodName} {bytes : ByteArray} {maxL : Nat} {ret : Option FieldType} {ws : List Jvm.Cond} {rm : Room} {h0 : Heap} {as' : Array Value} (hpl : plainFor y = true) (hef : ∀ m, entryFrame m as' maxL = mkF m 0 Ls [])
    (body : ∀ (p : Program) (e : Env) (s : State) (m : MethodId) (below : List Frame) (meth : Method) (c : Code) (T : State), p.tables.exec = Jvm.exec → c.code = bytes → c.maxLocals = maxL → Z.Warmed39 s.vm → s.vm.findClass y.cls = some m.cls → meth.name = y.name → meth.sig.returnType = ret → meth.locks = false →
      Stand p l e rm s m as' below meth c T [] 0 0 → T.heap = h0 → Ga p e below s Q rm.cells rm.slots T m 0 Ls []) : Ct l Z y bytes maxL ret ws rm as' h0 Q := by
  refine MetFree.of_bodySF hpl hisR ?_
  intro p e s m args below meth c s₁ Bd hml0 hP hK
  obtain ⟨rfl, hZ, hh⟩ := hP
  have X0 : Stand p l e rm s m args below meth c s₁ [] 0 0 := Stand.of_body Bd
  have e0 : s₁.heap = h0 := by rw [← hh, Bd.state]; rfl
  obtain ⟨U, o, g1, g2⟩ := body p e s m below meth c s₁ Bd.exec Bd.bytes hml0 hZ (findClass_of_methodNamed Bd.named) (name_of_methodNamed Bd.named Bd.method).1 Bd.returns (BodyLoose.notSynchronized Bd) X0 e0
  exact ⟨U, o, castTop (hef m) g1, g2⟩
theorem Ga.out (X : Stand p l e R s m args below meth c T locs cells slots) {v : Option Value} (hlk : meth.locks = false) (hv : meth.sig.returnType = none → v = none) (hc : cells ≤ C) (hs : slots ≤ S) (hq : Q v T.heap locs)
    (k : ∀ fs, (∀ (f : JFrame) (acts : List Action), f.method = m → f.locked = none → f.entered = [] → (doReturn e (T.setTop f) acts v).1 = T.setFrames fs) → Steps p.tables e below (T.setTop (mkF m pc Ls st)) (T.setFrames fs)) : Ga p e below s Q C S T m pc Ls st := by
  obtain ⟨fs, hr, hrun, hended, hW, hsame⟩ := X.leave (v := v) hv hlk
  exact ⟨_, _, k fs hr, hrun, hended, _, _, rfl, hq, ⟨_, rfl⟩, hW, hsame.mono hc hs⟩
theorem g_iloadN (X : Stand p l e R s m args below meth c T locs cells slots) (hx : p.tables.exec = Jvm.exec) {k : Fin 4} {v : Int32} (hd : decode c.code pc = .ok (.iload_n k, 1)) (hp : pc + 1 = q) (hl : Ls[k.val]? = some (.val (.int v))) (g : Ga p e below s Q C S T m q Ls (.int v :: st)) : Ga p e below s Q C S T m pc Ls st := by
  subst hp
  exact Ga.stp (fun _ k => XS.iloadN X.here hx rfl hd hl k) g
theorem g_iload (X : Stand p l e R s m args below meth c T locs cells slots) (hx : p.tables.exec = Jvm.exec) {k : Nat} {v : Int32} (hd : decode c.code pc = .ok (.iload k, 2)) (hp : pc + 2 = q) (hl : Ls[k]? = some (.val (.int v))) (g : Ga p e below s Q C S T m q Ls (.int v :: st)) : Ga p e below s Q C S T m pc Ls st := by
  subst hp
  exact Ga.stp (fun _ k => XS.iload X.here hx rfl hd hl k) g
theorem g_aloadN (X : Stand p l e R s m args below meth c T locs cells slots) (hx : p.tables.exec = Jvm.exec) {k : Fin 4} {v : Value} (hd : decode c.code pc = .ok (.aload_n k, 1)) (hp : pc + 1 = q) (hl : Ls[k.val]? = some (.val v)) (hv : v.isRef = true) (g : Ga p e below s Q C S T m q Ls (v :: st)) : Ga p e below s Q C S T m pc Ls st := by
  subst hp
  exact Ga.stp (fun _ k => XS.aloadN X.here hx rfl hd hl hv k) g
theorem g_aload (X : Stand p l e R s m args below meth c T locs cells slots) (hx : p.tables.exec = Jvm.exec) {k : Nat} {v : Value} (hd : decode c.code pc = .ok (.aload k, 2)) (hp : pc + 2 = q) (hl : Ls[k]? = some (.val v)) (hv : v.isRef = true) (g : Ga p e below s Q C S T m q Ls (v :: st)) : Ga p e below s Q C S T m pc Ls st := by
  subst hp
  exact Ga.stp (fun _ k => XS.aload X.here hx rfl hd hl hv k) g
theorem g_istoreN (X : Stand p l e R s m args below meth c T locs cells slots) (hx : p.tables.exec = Jvm.exec) {k : Fin 4} {x : Int32} (hd : decode c.code pc = .ok (.istore_n k, 1)) (hp : pc + 1 = q) (hl : storeLocals Ls k.val (.int x) = some Ls') (g : Ga p e below s Q C S T m q Ls' st) : Ga p e below s Q C S T m pc Ls (.int x :: st) := by
  subst hp
  exact Ga.stp (fun _ k => XS.istoreN X.here hx rfl hd rfl hl k) g
theorem g_istore (X : Stand p l e R s m args below meth c T locs cells slots) (hx : p.tables.exec = Jvm.exec) {k : Nat} {x : Int32} (hd : decode c.code pc = .ok (.istore k, 2)) (hp : pc + 2 = q) (hl : storeLocals Ls k (.int x) = some Ls') (g : Ga p e below s Q C S T m q Ls' st) : Ga p e below s Q C S T m pc Ls (.int x :: st) := by
  subst hp
  exact Ga.stp (fun _ k => XS.istore X.here hx rfl hd rfl hl k) g
theorem g_astore (X : Stand p l e R s m args below meth c T locs cells slots) (hx : p.tables.exec = Jvm.exec) {k : Nat} {x : Value} (hd : decode c.code pc = .ok (.astore k, 2)) (hp : pc + 2 = q) (hv : x.isRef = true) (hl : storeLocals Ls k x = some Ls') (g : Ga p e below s Q C S T m q Ls' st) : Ga p e below s Q C S T m pc Ls (x :: st) := by
  subst hp
  exact Ga.stp (fun _ k => XS.astore X.here hx rfl hd rfl hv hl k) g
theorem g_iconst (X : Stand p l e R s m args below meth c T locs cells slots) (hx : p.tables.exec = Jvm.exec) {i : Int} {r : Int32} (hd : decode c.code pc = .ok (.iconst i, 1)) (hp : pc + 1 = q) (hr : Int32.ofInt i = r) (g : Ga p e below s Q C S T m q Ls (.int r :: st)) : Ga p e below s Q C S T m pc Ls st := by
  subst hp hr
  exact Ga.stp (fun _ k => XS.iconst X.here hx rfl hd k) g
theorem g_iand (X : Stand p l e R s m args below meth c T locs cells slots) (hx : p.tables.exec = Jvm.exec) {x y r : Int32} (hd : decode c.code pc = .ok (.iand, 1)) (hp : pc + 1 = q) (hr : x &&& y = r) (g : Ga p e below s Q C S T m q Ls (.int r :: st)) : Ga p e below s Q C S T m pc Ls (.int y :: .int x :: st) := by
  subst hp hr
  exact Ga.stp (fun _ k => XS.iand X.here hx rfl hd rfl k) g
theorem g_irem (X : Stand p l e R s m args below meth c T locs cells slots) (hx : p.tables.exec = Jvm.exec) {x y r : Int32} (hd : decode c.code pc = .ok (.irem, 1)) (hp : pc + 1 = q) (hy : y ≠ 0) (hr : x % y = r) (g : Ga p e below s Q C S T m q Ls (.int r :: st)) : Ga p e below s Q C S T m pc Ls (.int y :: .int x :: st) := by
  subst hp hr
  exact Ga.stp (fun _ k => iremM X hx (g := mkF m pc Ls (.int y :: .int x :: st)) rfl hd rfl hy k) g
theorem g_goto (X : Stand p l e R s m args below meth c T locs cells slots) (hx : p.tables.exec = Jvm.exec) {o : Int} (hd : decode c.code pc = .ok (.goto o, 3)) (ho : 0 ≤ (pc : Int) + o) (hp : ((pc : Int) + o).toNat = q) (g : Ga p e below s Q C S T m q Ls st) : Ga p e below s Q C S T m pc Ls st :=
  Ga.stp (fun _ k => XS.goto X.here hx rfl rfl hd ho hp k) g
theorem g_ifY (X : Stand p l e R s m args below meth c T locs cells slots) (hx : p.tables.exec = Jvm.exec) {cd : ClassFile.Cond} {x : Int32} {o : Int} (hd : decode c.code pc = .ok (.ifCond cd o, 3)) (hc : ifCond.holds cd x = true) (ho : 0 ≤ (pc : Int) + o) (hp : ((pc : Int) + o).toNat = q) (g : Ga p e below s Q C S T m q Ls st) : Ga p e below s Q C S T m pc Ls (.int x :: st) :=
  Ga.stp (fun _ k => XS.ifYes X.here hx rfl rfl hd rfl hc ho hp k) g
theorem g_ifN (X : Stand p l e R s m args below meth c T locs cells slots) (hx : p.tables.exec = Jvm.exec) {cd : ClassFile.Cond} {x : Int32} {o : Int} (hd : decode c.code pc = .ok (.ifCond cd o, 3)) (hp : pc + 3 = q) (hc : ifCond.holds cd x = false) (g : Ga p e below s Q C S T m q Ls st) : Ga p e below s Q C S T m pc Ls (.int x :: st) := by
  subst hp
  exact Ga.stp (fun _ k => XS.ifNo X.here hx rfl hd rfl hc k) g
theorem g_icmpY (X : Stand p l e R s m args below meth c T locs cells slots) (hx : p.tables.exec = Jvm.exec) {cd : ClassFile.Cond} {x y : Int32} {o : Int} (hd : decode c.code pc = .ok (.if_icmp cd o, 3)) (hc : if_icmp.holds cd x y = true) (ho : 0 ≤ (pc : Int) + o) (hp : ((pc : Int) + o).toNat = q) (g : Ga p e below s Q C S T m q Ls st) : Ga p e below s Q C S T m pc Ls (.int y :: .int x :: st) :=
  Ga.stp (fun _ k => XS.icmpYes X.here hx rfl rfl hd rfl hc ho hp k) g
theorem g_icmpN (X : Stand p l e R s m args below meth c T locs cells slots) (hx : p.tables.exec = Jvm.exec) {cd : ClassFile.Cond} {x y : Int32} {o : Int} (hd : decode c.code pc = .ok (.if_icmp cd o, 3)) (hp : pc + 3 = q) (hc : if_icmp.holds cd x y = false) (g : Ga p e below s Q C S T m q Ls st) : Ga p e below s Q C S T m pc Ls (.int y :: .int x :: st) := by
  subst hp
  exact Ga.stp (fun _ k => XS.icmpNo X.here hx rfl hd rfl hc k) g
theorem g_retN (X : Stand p l e R s m args below meth c T locs cells slots) (hx : p.tables.exec = Jvm.exec) {z r : Int32} {t : FieldType} (hret : meth.sig.returnType = some t) (ht : t = .boolean ∨ t = .byte ∨ t = .char ∨ t = .short) (hlk : meth.locks = false) (hd : decode c.code pc = .ok (.ireturn, 1)) (hr : nar t z = r) (hc : cells ≤ C) (hs : slots ≤ S) (hq : Q (some (.int r)) T.heap locs) : Ga p e below s Q C S T m pc Ls (.int z :: st) := by
  subst hr
  exact Ga.out X hlk (fun h => by rw [hret] at h; cases h) hc hs hq fun fs hr => retN X hx hret ht hd hr
theorem g_ldcI (X : Stand p l e R s m args below meth c T locs cells slots) (hx : p.tables.exec = Jvm.exec) (hZ : Z.Warmed39 s.vm) (hown : s.vm.findClass own = some m.cls) {index : Nat} {v : Int32} (w : (Cond.constant own index v).before a0 Z = true) (hd : decode c.code pc = .ok (.ldc index, 2)) (hp : pc + 2 = q) (g : Ga p e below s Q C S T m q Ls (.int v :: st)) : Ga p e below s Q C S T m pc Ls st := by
  subst hp
  exact Ga.stp (fun t k => X.ldcInt hx hown (mvT hZ w) (g := mkF m pc Ls st) rfl hd t k) g
theorem g_getF (X : Stand p l e R s m args below meth c T locs cells slots) (hx : p.tables.exec = Jvm.exec) (hZ : Z.Warmed39 s.vm) (hown : s.vm.findClass own = some m.cls) {R0 O n d host : String} {index : Nat} (w : (Cond.fieldLink own index R0 n d).before a0 Z = true ∨ (Cond.fieldLinkNest own index R0 n d host).before a0 Z = true) (via : Via Z R0 O n d) (eT : T.heap = h) {a : Addr} {v : Value} (F : Fld Z h a O n d v)
    (hd : decode c.code pc = .ok (.getfield index, 3)) (hp : pc + 3 = q) (k : ∀ T', Stand p l e R s m args below meth c T' locs cells slots → T'.heap = h → Ga p e below s Q C S T' m q Ls (v :: st)) : Ga p e below s Q C S T m pc Ls (.ref a :: st) := by
  subst hp
  obtain ⟨T', X', e', sx⟩ := getF X hx hZ hown w via eT F (g := mkF m pc Ls (.ref a :: st)) rfl rfl hd
  exact Ga.stp sx (k T' X' e')
theorem g_getS (X : Stand p l e R s m args below meth c T locs cells slots) (hx : p.tables.exec = Jvm.exec) (hZ : Z.Warmed39 s.vm) (hown : s.vm.findClass own = some m.cls) {R0 O n d host : String} {index : Nat} (w : (Cond.fieldLink own index R0 n d).before a0 Z = true ∨ (Cond.fieldLinkNest own index R0 n d host).before a0 Z = true) (via : Via Z R0 O n d) (eT : T.heap = h) {v : Value} (F : Sta Z h O n d v)
    (hd : decode c.code pc = .ok (.getstatic index, 3)) (hp : pc + 3 = q) (k : ∀ T', Stand p l e R s m args below meth c T' locs cells slots → T'.heap = h → Ga p e below s Q C S T' m q Ls (v :: st)) : Ga p e below s Q C S T m pc Ls st := by
  subst hp
  obtain ⟨T', X', e', sx⟩ := getS2 X hx hZ hown w via eT F (g := mkF m pc Ls st) rfl hd
  exact Ga.stp sx (k T' X' e')
theorem g_virtual (X : Stand p l e R s m args below meth c T locs cells slots) (hx : p.tables.exec = Jvm.exec) (hZ : Z.Warmed39 s.vm) (hown : s.vm.findClass own = some m.cls) {index : Nat} {y z : MethodName} {K : String} {ret : Option FieldType} {bytes : ByteArray} {maxL : Nat} {rm : Room} {as' : Array Value} {Q' : Option Value → Heap → List Loc → Prop} (w1 : (Cond.methodLink own index y).before a0 Z = true) (w2 : (Cond.declares y).before a0 Z = true) (nf : NotFace s y) (w3 : (Cond.selects K y z).before a0 Z = true) (w4 : (Cond.instanceMethod z).before a0 Z = true) (w5 : (Cond.initialized z.cls).before a0 Z = true) (w6 : (Cond.code z bytes maxL ret).before a0 Z = true) (hy : y.cls ≠ "java/lang/invoke/MethodHandle" ∧ y.cls ≠ "java/lang/invoke/VarHandle") {a : Addr} (E : Exa Z h a K)
    (hM : Ct l Z z bytes maxL ret [] rm as' h Q') (hsz : Ls.size = c.maxLocals) (eT : T.heap = h) (argsL : List Value) {rest : List Value} (has : as' = (.ref a :: argsL).toArray) (hst : st = argsL.reverse ++ .ref a :: rest) {W : Nat} (hW : (rest.map fun v => v.category).sum ≤ W) (hf : rm.frames + 1 ≤ R.frames) (hl : W + (maxL + 11) + rm.locals ≤ R.locals) (hcl : cells + rm.cells ≤ R.cells) (hsl : slots + rm.slots ≤ R.slots) (hlen : ∀ sig, parseMethodDescriptor y.desc = some sig → argsL.length = sig.parameters.length) (hd : decode c.code pc = .ok (.invokevirtual index, 3)) (hp : pc + 3 = q) (k : ∀ v T' L, Stand p l e R s m args below meth c T' (locs ++ L) (cells + rm.cells) (slots + rm.slots) → Q' v T'.heap L → Ga p e below s Q C S T' m q Ls (v.toList ++ rest)) : Ga p e below s Q C S T m pc Ls st := by
  subst hp has hst
  obtain ⟨cq, kq, qa, qb, qc⟩ := isOf hZ eT E
  obtain ⟨_, _, ⟨T', L', k', n'⟩, -, X', ⟨Lc, hQ', l1, y1, z1⟩, sx⟩ := X.virtualBack hx (y := y) (z := z) hown (mvT hZ w1) (mvT hZ w2) nf (mvT hZ w3) (mvT hZ w4) hy (backOf (W := W) hM hZ w6 w5 hf hl) qa qc (g := mkF m pc Ls (argsL.reverse ++ .ref a :: rest)) rfl hsz (Steps.refl _) (argsL := argsL) (rest := rest) hlen rfl (by show 2 * 0 + _ ≤ _; omega) hd (fun _ _ => ⟨rfl, eT, hcl, hsl⟩)
  dsimp only [Pt.U, Pt.locs, Pt.cells, Pt.slots] at X' l1 y1 z1 sx hQ'
  subst l1 y1 z1
  exact Ga.stp (fun _ kk => sx.trans kk) (k _ T' Lc X' hQ')
variable {ka : ClassId} {ty : FieldType} {z j : Int32} {vs : List Value} {dv : Value} {a : Addr}
end GoKit

theorem own_irrI (x : Int32) : ¬ x < x := Int32.lt_irrefl
theorem own_irrJ (x : Int64) : ¬ x < x := Int64.lt_irrefl
theorem own_narc (x : Int32) : nar .char (x &&& (255 : Int32)) = (x &&& (255 : Int32)) := i2c_mask x
theorem own_nar (x : Int32) : nar .byte x = x.toInt8.toInt32 := rfl
theorem own_bb (x : Int32) : x.toInt8.toInt32.toInt8.toInt32 = x.toInt8.toInt32 := by simp
theorem own_nb {h : Heap} {b b' y : Addr} (hb : b' = b ∨ h.size ≤ b') (lt : y < h.size) (ne : y ≠ b) : y ≠ b' := hb.elim (fun q => q ▸ ne) (fun q => Nat.ne_of_lt (Nat.lt_of_lt_of_le lt q))
theorem own_ng {h : Heap} {b b' : Addr} {n0 : Nat} (hb : b' = b ∨ h.size ≤ b') (g : n0 ≤ b) (Z : n0 ≤ h.size) : n0 ≤ b' := hb.elim (fun q => q ▸ g) (fun q => Nat.le_trans Z q)
theorem own_insK {Z : State} {h h' : Heap} {a : Addr} {C : String} {ws : List Addr} (F : Ins Z h a C true) (K : Keep h h' ws) : Ins Z h' a C true := by
  obtain ⟨cell, cT, h1, h2, h3⟩ := F
  obtain ⟨c', q1, q2, q3, -⟩ := K.2.2 _ _ h1
  exact ⟨c', cT, q1, h2, by rw [q2, q3]; exact h3⟩
theorem d_prog_2_m_5_0 : decode prog_2_method_5_code 0 = .ok (.iload_n 1, 1) := by decide +kernel
theorem d_prog_2_m_5_1 : decode prog_2_method_5_code 1 = .ok (.ifCond .eq 10, 3) := by decide +kernel
theorem d_prog_2_m_5_11 : decode prog_2_method_5_code 11 = .ok (.aload_n 0, 1) := by decide +kernel
theorem d_prog_2_m_5_12 : decode prog_2_method_5_code 12 = .ok (.getfield 32, 3) := by decide +kernel
theorem d_prog_2_m_5_15 : decode prog_2_method_5_code 15 = .ok (.ireturn, 1) := by decide +kernel
theorem d_prog_2_m_5_4 : decode prog_2_method_5_code 4 = .ok (.aload_n 0, 1) := by decide +kernel
theorem d_prog_2_m_5_5 : decode prog_2_method_5_code 5 = .ok (.getfield 36, 3) := by decide +kernel
theorem d_prog_2_m_5_8 : decode prog_2_method_5_code 8 = .ok (.goto 7, 3) := by decide +kernel
theorem d_prog_2_m_4_0 : decode prog_2_method_4_code 0 = .ok (.aload_n 0, 1) := by decide +kernel
theorem d_prog_2_m_4_1 : decode prog_2_method_4_code 1 = .ok (.getfield 32, 3) := by decide +kernel
theorem d_prog_2_m_4_4 : decode prog_2_method_4_code 4 = .ok (.ireturn, 1) := by decide +kernel
theorem pd_0 : parseMethodDescriptor "(Z)Z" = some ⟨[.boolean], some .boolean⟩ := by decide +kernel
theorem pd_1 : parseMethodDescriptor "()Z" = some ⟨[], some .boolean⟩ := by decide +kernel
theorem pn_0 : plainName "com/example/covering/covering/PutCondition" = true := by first | (simp [plainName, overriddenIn]; done) | decide +kernel
theorem pn_1 : plainName "com/example/covering/covering/PutConditionAdmitsPinLaw" = true := by first | (simp [plainName, overriddenIn]; done) | decide +kernel
theorem own_lt32 {x y : Int32} : x < y ↔ x.toInt < y.toInt := Int32.lt_iff_toInt_lt
theorem own_eq32 {x y : Int32} : x = y ↔ x.toInt = y.toInt := Int32.toInt_inj.symm
theorem own_i0 : (0 : Int32).toInt = 0 := rfl
theorem own_i1 : (1 : Int32).toInt = 1 := rfl
theorem own_nat {j z : Int32} (h0 : ¬ j < 0) (h : j < z) : j.toNatClampNeg < z.toNatClampNeg := by
  have a := nat_of h0
  have hz : ¬ z < 0 := by rw [own_lt32] at *; rw [own_i0] at *; omega
  have b := nat_of hz
  rw [own_lt32] at h; omega
theorem own_mx {x v : Int32} (h : (x &&& (2147483647 : Int32)) = v) : ¬ v < (0 : Int32) := by
  have e := c_mask x 2147483647 31 (by decide) (by decide)
  rw [h] at e; rw [own_lt32, own_i0]; omega
theorem own_mx1 {x v : Int32} (h : (x &&& (2147483647 : Int32)) = v) (h0 : ¬ v = 0) : ¬ v < (1 : Int32) := by
  have e := c_mask x 2147483647 31 (by decide) (by decide)
  rw [h] at e; rw [own_eq32, own_i0] at h0; rw [own_lt32, own_i1]; omega
theorem own_rem3 {x v : Int32} (h0 : ¬ x < (0 : Int32)) (h : (x % (3 : Int32)) = v) : v = (0 : Int32) ∨ v = (1 : Int32) ∨ v = (2 : Int32) := by
  have e := (c_irem x 3 3 rfl).1 (by rw [own_lt32, own_i0] at h0; omega)
  rw [h] at e
  have : v.toInt = 0 ∨ v.toInt = 1 ∨ v.toInt = 2 := by omega
  rcases this with q | q | q
  · left; exact Int32.toInt_inj.mp q
  · right; left; exact Int32.toInt_inj.mp q
  · right; right; exact Int32.toInt_inj.mp q
theorem own_ushr0 (x q : Int32) (k : Nat) (hk : q.toBitVec.toNat % 32 = k) (hk0 : 0 < k) : ¬ ((x.toUInt32 >>> (q &&& 31).toUInt32).toInt32) < (0 : Int32) := by
  have e := c_iushr x q k hk hk0
  rw [own_lt32, e, own_i0]
  have : 0 ≤ (x.toInt % 4294967296) / ((2 ^ k : Nat) : Int) := Int.ediv_nonneg (Int.emod_nonneg _ (by decide)) (Int.natCast_nonneg _)
  omega
theorem own_eqi {args : Array Value} {s : State} {idx : List Nat} {t : Term} {n : Int32} (h : (Jvm.Cond.eq t (.int n)).value args s none s idx = some true) : t.eval args s none idx s = some (.int n) := by
  obtain ⟨x, y, h1, h2, h3, h4⟩ := cmp_v (Or.inl h)
  cases (Term.int_eval n).symm.trans h2
  obtain ⟨z, rfl⟩ := h4
  have e := gotT (Cond.eq_ints h1 h2) h
  subst e; exact h1

def Q_adm0 (Z : State) (a : Addr) (x : Int32) (h0 : Heap) (n0 : Nat) (v : Option Value) (h : Heap) (L : List Loc) : Prop := v = some (.int x) ∧ Fr n0 L ∧ h = h0
theorem ef_adm0 (m : MethodId) (x0 : Addr) (x1 : Int32) : entryFrame m #[(.ref x0), (.int x1)] 2 = mkF m 0 #[.val (.ref x0), .val (.int x1)] [] := by first | (simp [entryFrame, mkF, argsToLocals, Value.category]; done) | rfl
set_option maxRecDepth 65536 in
set_option maxHeartbeats 40000000 in
theorem rm_adm0 (l : Launch) (Z : State) (a0 : Array Value) (hw : ∀ d ∈ tables_1, d.before a0 Z = true) (a : Addr) (x : Int32) (h0 : Heap) (n0 : Nat) (Z0 : n0 ≤ h0.size) (F_makes_a : Fld Z h0 a "com/example/covering/covering/PutCondition" "makes" "Z" (.int x)) (hnar : nar .boolean x = x) :
    Ct l Z (⟨"com/example/covering/covering/PutCondition", "admits", "(Z)Z"⟩ : MethodName) prog_2_method_5_code 2 (some .boolean) [] ({ frames := 0, cells := 0, slots := 0, locals := 0 } : Room) #[(.ref a), (.int (0 : Int32))] h0 (Q_adm0 Z a x h0 n0) := by
  refine own_body (plainFor_of_name pn_0) (fun m => ef_adm0 m a (0 : Int32)) ?_
  intro p e s m below meth c T0 hx hby hml hZ hown hnm hret hlk X0 e0
  have N0 := Fr.nil n0
  refine g_iloadN X0 hx (hb hby d_prog_2_m_5_0) rfl rfl ?_
  refine g_ifY X0 hx (q := 11) (hb hby d_prog_2_m_5_1) (XT.i0_eq_t (by decide : (0 : Int32) = (0 : Int32))) (by decide) (by decide) ?_
  refine g_aloadN X0 hx (hb hby d_prog_2_m_5_11) rfl rfl rfl ?_
  refine g_getF X0 hx hZ hown (host := "") (Or.inl (hw _ (List.mem_of_getElem? (i := 11) rfl))) Via.refl e0 F_makes_a (hb hby d_prog_2_m_5_12) rfl fun T1 X1 e1 => ?_
  exact g_retN X1 hx (t := .boolean) (r := x) hret (by simp) hlk (hb hby d_prog_2_m_5_15) hnar (by decide) (by decide) (by rw [e1]; exact ⟨rfl, N0, rfl⟩)
def Q_adm1 (Z : State) (a : Addr) (x : Int32) (h0 : Heap) (n0 : Nat) (v : Option Value) (h : Heap) (L : List Loc) : Prop := v = some (.int x) ∧ Fr n0 L ∧ h = h0
theorem ef_adm1 (m : MethodId) (x0 : Addr) (x1 : Int32) : entryFrame m #[(.ref x0), (.int x1)] 2 = mkF m 0 #[.val (.ref x0), .val (.int x1)] [] := by first | (simp [entryFrame, mkF, argsToLocals, Value.category]; done) | rfl
set_option maxRecDepth 65536 in
set_option maxHeartbeats 40000000 in
theorem rm_adm1 (l : Launch) (Z : State) (a0 : Array Value) (hw : ∀ d ∈ tables_1, d.before a0 Z = true) (a : Addr) (x : Int32) (h0 : Heap) (n0 : Nat) (Z0 : n0 ≤ h0.size) (F_replaces_a : Fld Z h0 a "com/example/covering/covering/PutCondition" "replaces" "Z" (.int x)) (hnar : nar .boolean x = x) :
    Ct l Z (⟨"com/example/covering/covering/PutCondition", "admits", "(Z)Z"⟩ : MethodName) prog_2_method_5_code 2 (some .boolean) [] ({ frames := 0, cells := 0, slots := 0, locals := 0 } : Room) #[(.ref a), (.int (1 : Int32))] h0 (Q_adm1 Z a x h0 n0) := by
  refine own_body (plainFor_of_name pn_0) (fun m => ef_adm1 m a (1 : Int32)) ?_
  intro p e s m below meth c T0 hx hby hml hZ hown hnm hret hlk X0 e0
  have N0 := Fr.nil n0
  refine g_iloadN X0 hx (hb hby d_prog_2_m_5_0) rfl rfl ?_
  refine g_ifN X0 hx (hb hby d_prog_2_m_5_1) rfl (XT.i0_eq_f (by decide : ¬ (1 : Int32) = (0 : Int32))) ?_
  refine g_aloadN X0 hx (hb hby d_prog_2_m_5_4) rfl rfl rfl ?_
  refine g_getF X0 hx hZ hown (host := "") (Or.inl (hw _ (List.mem_of_getElem? (i := 9) rfl))) Via.refl e0 F_replaces_a (hb hby d_prog_2_m_5_5) rfl fun T1 X1 e1 => ?_
  refine g_goto X1 hx (q := 15) (hb hby d_prog_2_m_5_8) (by decide) (by decide) ?_
  exact g_retN X1 hx (t := .boolean) (r := x) hret (by simp) hlk (hb hby d_prog_2_m_5_15) hnar (by decide) (by decide) (by rw [e1]; exact ⟨rfl, N0, rfl⟩)
def Q_makes (Z : State) (a : Addr) (x : Int32) (h0 : Heap) (n0 : Nat) (v : Option Value) (h : Heap) (L : List Loc) : Prop := v = some (.int x) ∧ Fr n0 L ∧ h = h0
theorem ef_makes (m : MethodId) (x0 : Addr) : entryFrame m #[(.ref x0)] 1 = mkF m 0 #[.val (.ref x0)] [] := by first | (simp [entryFrame, mkF, argsToLocals, Value.category]; done) | rfl
set_option maxRecDepth 65536 in
set_option maxHeartbeats 40000000 in
theorem rm_makes (l : Launch) (Z : State) (a0 : Array Value) (hw : ∀ d ∈ tables_1, d.before a0 Z = true) (a : Addr) (x : Int32) (h0 : Heap) (n0 : Nat) (Z0 : n0 ≤ h0.size) (F_makes_a : Fld Z h0 a "com/example/covering/covering/PutCondition" "makes" "Z" (.int x)) (hnar : nar .boolean x = x) :
    Ct l Z (⟨"com/example/covering/covering/PutCondition", "makesRecords", "()Z"⟩ : MethodName) prog_2_method_4_code 1 (some .boolean) [] ({ frames := 0, cells := 0, slots := 0, locals := 0 } : Room) #[(.ref a)] h0 (Q_makes Z a x h0 n0) := by
  refine own_body (plainFor_of_name pn_0) (fun m => ef_makes m a) ?_
  intro p e s m below meth c T0 hx hby hml hZ hown hnm hret hlk X0 e0
  have N0 := Fr.nil n0
  refine g_aloadN X0 hx (hb hby d_prog_2_m_4_0) rfl rfl rfl ?_
  refine g_getF X0 hx hZ hown (host := "") (Or.inl (hw _ (List.mem_of_getElem? (i := 11) rfl))) Via.refl e0 F_makes_a (hb hby d_prog_2_m_4_1) rfl fun T1 X1 e1 => ?_
  exact g_retN X1 hx (t := .boolean) (r := x) hret (by simp) hlk (hb hby d_prog_2_m_4_4) hnar (by decide) (by decide) (by rw [e1]; exact ⟨rfl, N0, rfl⟩)
def Q_law (Z : State) (p0 : Int32) (p1 : Int32) (u0 : Addr) (u1 : Addr) (u2 : Addr) (h0 : Heap) (n0 : Nat) (v : Option Value) (h : Heap) (L : List Loc) : Prop := v = some (.int 1) ∧ Fr n0 L
theorem ef_law (m : MethodId) (x0 : Int32) (x1 : Int32) : entryFrame m #[(.int x0), (.int x1)] maxLocals = mkF m 0 #[.val (.int x0), .val (.int x1), .unset, .unset, .unset, .unset, .unset] [] := by first | (simp [entryFrame, mkF, argsToLocals, Value.category, maxLocals]; done) | rfl
set_option maxRecDepth 65536 in
set_option maxHeartbeats 40000000 in
theorem rm_law (l : Launch) (Z : State) (a0 : Array Value) (hw : ∀ d ∈ tables_1, d.before a0 Z = true) (ws : List Jvm.Cond) (p0 : Int32) (p1 : Int32) (u0 : Addr) (u1 : Addr) (u2 : Addr) (h0 : Heap) (n0 : Nat) (Z0 : n0 ≤ h0.size) (S_ALWAYS : Sta Z h0 "com/example/covering/covering/PutCondition" "ALWAYS" "Lcom/example/covering/covering/PutCondition;" (.ref u0)) (E_u0 : Exa Z h0 u0 "com/example/covering/covering/PutCondition") (F_replaces_u0 : Fld Z h0 u0 "com/example/covering/covering/PutCondition" "replaces" "Z" (.int (1 : Int32))) (F_makes_u0 : Fld Z h0 u0 "com/example/covering/covering/PutCondition" "makes" "Z" (.int (1 : Int32))) (S_IF_PRESENT : Sta Z h0 "com/example/covering/covering/PutCondition" "IF_PRESENT" "Lcom/example/covering/covering/PutCondition;" (.ref u1)) (E_u1 : Exa Z h0 u1 "com/example/covering/covering/PutCondition") (F_replaces_u1 : Fld Z h0 u1 "com/example/covering/covering/PutCondition" "replaces" "Z" (.int (1 : Int32))) (F_makes_u1 : Fld Z h0 u1 "com/example/covering/covering/PutCondition" "makes" "Z" (.int (0 : Int32))) (S_IF_ABSENT : Sta Z h0 "com/example/covering/covering/PutCondition" "IF_ABSENT" "Lcom/example/covering/covering/PutCondition;" (.ref u2)) (E_u2 : Exa Z h0 u2 "com/example/covering/covering/PutCondition") (F_makes_u2 : Fld Z h0 u2 "com/example/covering/covering/PutCondition" "makes" "Z" (.int (1 : Int32))) (F_replaces_u2 : Fld Z h0 u2 "com/example/covering/covering/PutCondition" "replaces" "Z" (.int (0 : Int32))) :
    Ct l Z x code maxLocals ret ws room_1 #[(.int p0), (.int p1)] h0 (Q_law Z p0 p1 u0 u1 u2 h0 n0) := by
  refine own_body (plainFor_of_name pn_1) (fun m => ef_law m p0 p1) ?_
  intro p e s m below meth c T0 hx hby hml hZ hown hnm hret hlk X0 e0
  have N0 := Fr.nil n0
  refine g_iloadN X0 hx (hb hby at_0) rfl rfl ?_
  refine g_ldcI X0 hx hZ hown (hw _ (List.mem_of_getElem? (i := 0) rfl)) (hb hby at_1) rfl ?_
  refine g_iand X0 hx (hb hby at_3) rfl rfl ?_
  refine g_iconst X0 hx (r := (3 : Int32)) (hb hby at_4) rfl rfl ?_
  obtain ⟨v5, hv5⟩ : ∃ r, ((p0 &&& (2147483647 : Int32)) % (3 : Int32)) = r := ⟨_, rfl⟩
  refine g_irem X0 hx (hb hby at_5) rfl (by decide) hv5 ?_
  refine g_istoreN X0 hx (Ls' := #[.val (.int p0), .val (.int p1), .val (.int v5), .unset, .unset, .unset, .unset]) (hb hby at_6) rfl rfl ?_
  have hcs_v5 : v5 = (0 : Int32) ∨ v5 = (1 : Int32) ∨ v5 = (2 : Int32) := own_rem3 (own_mx rfl) hv5
  rcases hcs_v5 with rfl | rfl | rfl
  · skip
    refine g_iloadN X0 hx (hb hby at_7) rfl rfl ?_
    refine g_iconst X0 hx (r := (1 : Int32)) (hb hby at_8) rfl rfl ?_
    refine g_iand X0 hx (hb hby at_9) rfl rfl ?_
    by_cases hc10 : (p1 &&& (1 : Int32)) = (0 : Int32)
    · skip
      refine g_ifY X0 hx (q := 17) (hb hby at_10) (XT.i0_eq_t hc10) (by decide) (by decide) ?_
      refine g_iconst X0 hx (r := (0 : Int32)) (hb hby at_17) rfl rfl ?_
      refine g_istoreN X0 hx (Ls' := #[.val (.int p0), .val (.int p1), .val (.int (0 : Int32)), .val (.int (0 : Int32)), .unset, .unset, .unset]) (hb hby at_18) rfl rfl ?_
      refine g_iloadN X0 hx (hb hby at_19) rfl rfl ?_
      refine g_ifN X0 hx (hb hby at_20) rfl (XT.i0_ne_f (by decide : (0 : Int32) = (0 : Int32))) ?_
      refine g_getS X0 hx hZ hown (host := "") (Or.inl (hw _ (List.mem_of_getElem? (i := 1) rfl))) Via.refl e0 S_ALWAYS (hb hby at_23) rfl fun T1 X1 e1 => ?_
      refine g_astore X1 hx (Ls' := #[.val (.int p0), .val (.int p1), .val (.int (0 : Int32)), .val (.int (0 : Int32)), .val (.ref u0), .unset, .unset]) (hb hby at_26) rfl rfl rfl ?_
      refine g_iconst X1 hx (r := (1 : Int32)) (hb hby at_28) rfl rfl ?_
      refine g_istore X1 hx (Ls' := #[.val (.int p0), .val (.int p1), .val (.int (0 : Int32)), .val (.int (0 : Int32)), .val (.ref u0), .val (.int (1 : Int32)), .unset]) (hb hby at_29) rfl rfl ?_
      refine g_goto X1 hx (q := 66) (hb hby at_31) (by decide) (by decide) ?_
      refine g_aload X1 hx (hb hby at_66) rfl rfl rfl ?_
      refine g_iloadN X1 hx (hb hby at_68) rfl rfl ?_
      refine g_virtual X1 hx hZ hown (hw _ (List.mem_of_getElem? (i := 4) rfl)) (hw _ (List.mem_of_getElem? (i := 5) rfl)) (notFace_of_selects (args := #[]) (mvT hZ (hw _ (List.mem_of_getElem? (i := 7) rfl)))) (hw _ (List.mem_of_getElem? (i := 7) rfl)) (hw _ (List.mem_of_getElem? (i := 6) rfl)) (hw _ (List.mem_of_getElem? (i := 2) rfl)) (hw _ (List.mem_of_getElem? (i := 8) rfl)) (by decide) (a := u0) E_u0 (rm_adm0 l Z a0 hw u0 (1 : Int32) h0 n0 Z0 F_makes_u0 (by first | decide | assumption | rfl | (intro _; rfl))) (by rw [hml]; rfl) e1 [(.int (0 : Int32))] rfl rfl (W := 0) (Nat.le_of_eq rfl) (by decide) (by decide) (by decide) (by decide) (lenOf pd_0 rfl) (hb hby at_69) rfl fun v2 T2 L2 X2 hQ2 => ?_
      obtain ⟨rfl, Nq2, eh2⟩ := hQ2
      have N2 := Fr.app N0 Nq2
      show Ga _ _ _ _ _ _ _ _ _ _ _ [(.int (1 : Int32))]
      refine g_istore X2 hx (Ls' := #[.val (.int p0), .val (.int p1), .val (.int (0 : Int32)), .val (.int (0 : Int32)), .val (.ref u0), .val (.int (1 : Int32)), .val (.int (1 : Int32))]) (hb hby at_72) rfl rfl ?_
      refine g_iload X2 hx (hb hby at_74) rfl rfl ?_
      refine g_iload X2 hx (hb hby at_76) rfl rfl ?_
      refine g_icmpN X2 hx (hb hby at_78) rfl (XT.ii_ne_f (by decide : (1 : Int32) = (1 : Int32))) ?_
      refine g_aload X2 hx (hb hby at_81) rfl rfl rfl ?_
      refine g_iconst X2 hx (r := (0 : Int32)) (hb hby at_83) rfl rfl ?_
      refine g_virtual X2 hx hZ hown (hw _ (List.mem_of_getElem? (i := 4) rfl)) (hw _ (List.mem_of_getElem? (i := 5) rfl)) (notFace_of_selects (args := #[]) (mvT hZ (hw _ (List.mem_of_getElem? (i := 7) rfl)))) (hw _ (List.mem_of_getElem? (i := 7) rfl)) (hw _ (List.mem_of_getElem? (i := 6) rfl)) (hw _ (List.mem_of_getElem? (i := 2) rfl)) (hw _ (List.mem_of_getElem? (i := 8) rfl)) (by decide) (a := u0) E_u0 (rm_adm0 l Z a0 hw u0 (1 : Int32) h0 n0 Z0 F_makes_u0 (by first | decide | assumption | rfl | (intro _; rfl))) (by rw [hml]; rfl) eh2 [(.int (0 : Int32))] rfl rfl (W := 0) (Nat.le_of_eq rfl) (by decide) (by decide) (by decide) (by decide) (lenOf pd_0 rfl) (hb hby at_84) rfl fun v3 T3 L3 X3 hQ3 => ?_
      obtain ⟨rfl, Nq3, eh3⟩ := hQ3
      have N3 := Fr.app N2 Nq3
      show Ga _ _ _ _ _ _ _ _ _ _ _ [(.int (1 : Int32))]
      refine g_aload X3 hx (hb hby at_87) rfl rfl rfl ?_
      refine g_virtual X3 hx hZ hown (hw _ (List.mem_of_getElem? (i := 13) rfl)) (hw _ (List.mem_of_getElem? (i := 14) rfl)) (notFace_of_selects (args := #[]) (mvT hZ (hw _ (List.mem_of_getElem? (i := 16) rfl)))) (hw _ (List.mem_of_getElem? (i := 16) rfl)) (hw _ (List.mem_of_getElem? (i := 15) rfl)) (hw _ (List.mem_of_getElem? (i := 2) rfl)) (hw _ (List.mem_of_getElem? (i := 17) rfl)) (by decide) (a := u0) E_u0 (rm_makes l Z a0 hw u0 (1 : Int32) h0 n0 Z0 F_makes_u0 (by first | decide | assumption | rfl | (intro _; rfl))) (by rw [hml]; rfl) eh3 [] rfl rfl (W := 1) (Nat.le_of_eq rfl) (by decide) (by decide) (by decide) (by decide) (lenOf pd_1 rfl) (hb hby at_89) rfl fun v4 T4 L4 X4 hQ4 => ?_
      obtain ⟨rfl, Nq4, eh4⟩ := hQ4
      have N4 := Fr.app N3 Nq4
      show Ga _ _ _ _ _ _ _ _ _ _ _ [(.int (1 : Int32)), (.int (1 : Int32))]
      refine g_icmpN X4 hx (hb hby at_92) rfl (XT.ii_ne_f (by decide : (1 : Int32) = (1 : Int32))) ?_
      refine g_iconst X4 hx (r := (1 : Int32)) (hb hby at_95) rfl rfl ?_
      refine g_goto X4 hx (q := 100) (hb hby at_96) (by decide) (by decide) ?_
      exact g_retN X4 hx (t := .boolean) (r := (1 : Int32)) hret (by simp) hlk (hb hby at_100) rfl (by decide) (by decide) (by rw [eh4]; exact ⟨rfl, N4⟩)
    · skip
      refine g_ifN X0 hx (hb hby at_10) rfl (XT.i0_eq_f hc10) ?_
      refine g_iconst X0 hx (r := (1 : Int32)) (hb hby at_13) rfl rfl ?_
      refine g_goto X0 hx (q := 18) (hb hby at_14) (by decide) (by decide) ?_
      refine g_istoreN X0 hx (Ls' := #[.val (.int p0), .val (.int p1), .val (.int (0 : Int32)), .val (.int (1 : Int32)), .unset, .unset, .unset]) (hb hby at_18) rfl rfl ?_
      refine g_iloadN X0 hx (hb hby at_19) rfl rfl ?_
      refine g_ifN X0 hx (hb hby at_20) rfl (XT.i0_ne_f (by decide : (0 : Int32) = (0 : Int32))) ?_
      refine g_getS X0 hx hZ hown (host := "") (Or.inl (hw _ (List.mem_of_getElem? (i := 1) rfl))) Via.refl e0 S_ALWAYS (hb hby at_23) rfl fun T5 X5 e5 => ?_
      refine g_astore X5 hx (Ls' := #[.val (.int p0), .val (.int p1), .val (.int (0 : Int32)), .val (.int (1 : Int32)), .val (.ref u0), .unset, .unset]) (hb hby at_26) rfl rfl rfl ?_
      refine g_iconst X5 hx (r := (1 : Int32)) (hb hby at_28) rfl rfl ?_
      refine g_istore X5 hx (Ls' := #[.val (.int p0), .val (.int p1), .val (.int (0 : Int32)), .val (.int (1 : Int32)), .val (.ref u0), .val (.int (1 : Int32)), .unset]) (hb hby at_29) rfl rfl ?_
      refine g_goto X5 hx (q := 66) (hb hby at_31) (by decide) (by decide) ?_
      refine g_aload X5 hx (hb hby at_66) rfl rfl rfl ?_
      refine g_iloadN X5 hx (hb hby at_68) rfl rfl ?_
      refine g_virtual X5 hx hZ hown (hw _ (List.mem_of_getElem? (i := 4) rfl)) (hw _ (List.mem_of_getElem? (i := 5) rfl)) (notFace_of_selects (args := #[]) (mvT hZ (hw _ (List.mem_of_getElem? (i := 7) rfl)))) (hw _ (List.mem_of_getElem? (i := 7) rfl)) (hw _ (List.mem_of_getElem? (i := 6) rfl)) (hw _ (List.mem_of_getElem? (i := 2) rfl)) (hw _ (List.mem_of_getElem? (i := 8) rfl)) (by decide) (a := u0) E_u0 (rm_adm1 l Z a0 hw u0 (1 : Int32) h0 n0 Z0 F_replaces_u0 (by first | decide | assumption | rfl | (intro _; rfl))) (by rw [hml]; rfl) e5 [(.int (1 : Int32))] rfl rfl (W := 0) (Nat.le_of_eq rfl) (by decide) (by decide) (by decide) (by decide) (lenOf pd_0 rfl) (hb hby at_69) rfl fun v6 T6 L6 X6 hQ6 => ?_
      obtain ⟨rfl, Nq6, eh6⟩ := hQ6
      have N6 := Fr.app N0 Nq6
      show Ga _ _ _ _ _ _ _ _ _ _ _ [(.int (1 : Int32))]
      refine g_istore X6 hx (Ls' := #[.val (.int p0), .val (.int p1), .val (.int (0 : Int32)), .val (.int (1 : Int32)), .val (.ref u0), .val (.int (1 : Int32)), .val (.int (1 : Int32))]) (hb hby at_72) rfl rfl ?_
      refine g_iload X6 hx (hb hby at_74) rfl rfl ?_
      refine g_iload X6 hx (hb hby at_76) rfl rfl ?_
      refine g_icmpN X6 hx (hb hby at_78) rfl (XT.ii_ne_f (by decide : (1 : Int32) = (1 : Int32))) ?_
      refine g_aload X6 hx (hb hby at_81) rfl rfl rfl ?_
      refine g_iconst X6 hx (r := (0 : Int32)) (hb hby at_83) rfl rfl ?_
      refine g_virtual X6 hx hZ hown (hw _ (List.mem_of_getElem? (i := 4) rfl)) (hw _ (List.mem_of_getElem? (i := 5) rfl)) (notFace_of_selects (args := #[]) (mvT hZ (hw _ (List.mem_of_getElem? (i := 7) rfl)))) (hw _ (List.mem_of_getElem? (i := 7) rfl)) (hw _ (List.mem_of_getElem? (i := 6) rfl)) (hw _ (List.mem_of_getElem? (i := 2) rfl)) (hw _ (List.mem_of_getElem? (i := 8) rfl)) (by decide) (a := u0) E_u0 (rm_adm0 l Z a0 hw u0 (1 : Int32) h0 n0 Z0 F_makes_u0 (by first | decide | assumption | rfl | (intro _; rfl))) (by rw [hml]; rfl) eh6 [(.int (0 : Int32))] rfl rfl (W := 0) (Nat.le_of_eq rfl) (by decide) (by decide) (by decide) (by decide) (lenOf pd_0 rfl) (hb hby at_84) rfl fun v7 T7 L7 X7 hQ7 => ?_
      obtain ⟨rfl, Nq7, eh7⟩ := hQ7
      have N7 := Fr.app N6 Nq7
      show Ga _ _ _ _ _ _ _ _ _ _ _ [(.int (1 : Int32))]
      refine g_aload X7 hx (hb hby at_87) rfl rfl rfl ?_
      refine g_virtual X7 hx hZ hown (hw _ (List.mem_of_getElem? (i := 13) rfl)) (hw _ (List.mem_of_getElem? (i := 14) rfl)) (notFace_of_selects (args := #[]) (mvT hZ (hw _ (List.mem_of_getElem? (i := 16) rfl)))) (hw _ (List.mem_of_getElem? (i := 16) rfl)) (hw _ (List.mem_of_getElem? (i := 15) rfl)) (hw _ (List.mem_of_getElem? (i := 2) rfl)) (hw _ (List.mem_of_getElem? (i := 17) rfl)) (by decide) (a := u0) E_u0 (rm_makes l Z a0 hw u0 (1 : Int32) h0 n0 Z0 F_makes_u0 (by first | decide | assumption | rfl | (intro _; rfl))) (by rw [hml]; rfl) eh7 [] rfl rfl (W := 1) (Nat.le_of_eq rfl) (by decide) (by decide) (by decide) (by decide) (lenOf pd_1 rfl) (hb hby at_89) rfl fun v8 T8 L8 X8 hQ8 => ?_
      obtain ⟨rfl, Nq8, eh8⟩ := hQ8
      have N8 := Fr.app N7 Nq8
      show Ga _ _ _ _ _ _ _ _ _ _ _ [(.int (1 : Int32)), (.int (1 : Int32))]
      refine g_icmpN X8 hx (hb hby at_92) rfl (XT.ii_ne_f (by decide : (1 : Int32) = (1 : Int32))) ?_
      refine g_iconst X8 hx (r := (1 : Int32)) (hb hby at_95) rfl rfl ?_
      refine g_goto X8 hx (q := 100) (hb hby at_96) (by decide) (by decide) ?_
      exact g_retN X8 hx (t := .boolean) (r := (1 : Int32)) hret (by simp) hlk (hb hby at_100) rfl (by decide) (by decide) (by rw [eh8]; exact ⟨rfl, N8⟩)
  · skip
    refine g_iloadN X0 hx (hb hby at_7) rfl rfl ?_
    refine g_iconst X0 hx (r := (1 : Int32)) (hb hby at_8) rfl rfl ?_
    refine g_iand X0 hx (hb hby at_9) rfl rfl ?_
    by_cases hc10 : (p1 &&& (1 : Int32)) = (0 : Int32)
    · skip
      refine g_ifY X0 hx (q := 17) (hb hby at_10) (XT.i0_eq_t hc10) (by decide) (by decide) ?_
      refine g_iconst X0 hx (r := (0 : Int32)) (hb hby at_17) rfl rfl ?_
      refine g_istoreN X0 hx (Ls' := #[.val (.int p0), .val (.int p1), .val (.int (1 : Int32)), .val (.int (0 : Int32)), .unset, .unset, .unset]) (hb hby at_18) rfl rfl ?_
      refine g_iloadN X0 hx (hb hby at_19) rfl rfl ?_
      refine g_ifY X0 hx (q := 34) (hb hby at_20) (XT.i0_ne_t (by decide : ¬ (1 : Int32) = (0 : Int32))) (by decide) (by decide) ?_
      refine g_iloadN X0 hx (hb hby at_34) rfl rfl ?_
      refine g_iconst X0 hx (r := (1 : Int32)) (hb hby at_35) rfl rfl ?_
      refine g_icmpN X0 hx (hb hby at_36) rfl (XT.ii_ne_f (by decide : (1 : Int32) = (1 : Int32))) ?_
      refine g_getS X0 hx hZ hown (host := "") (Or.inl (hw _ (List.mem_of_getElem? (i := 20) rfl))) Via.refl e0 S_IF_ABSENT (hb hby at_39) rfl fun T9 X9 e9 => ?_
      refine g_astore X9 hx (Ls' := #[.val (.int p0), .val (.int p1), .val (.int (1 : Int32)), .val (.int (0 : Int32)), .val (.ref u2), .unset, .unset]) (hb hby at_42) rfl rfl rfl ?_
      refine g_iloadN X9 hx (hb hby at_44) rfl rfl ?_
      refine g_ifN X9 hx (hb hby at_45) rfl (XT.i0_ne_f (by decide : (0 : Int32) = (0 : Int32))) ?_
      refine g_iconst X9 hx (r := (1 : Int32)) (hb hby at_48) rfl rfl ?_
      refine g_goto X9 hx (q := 53) (hb hby at_49) (by decide) (by decide) ?_
      refine g_istore X9 hx (Ls' := #[.val (.int p0), .val (.int p1), .val (.int (1 : Int32)), .val (.int (0 : Int32)), .val (.ref u2), .val (.int (1 : Int32)), .unset]) (hb hby at_53) rfl rfl ?_
      refine g_goto X9 hx (q := 66) (hb hby at_55) (by decide) (by decide) ?_
      refine g_aload X9 hx (hb hby at_66) rfl rfl rfl ?_
      refine g_iloadN X9 hx (hb hby at_68) rfl rfl ?_
      refine g_virtual X9 hx hZ hown (hw _ (List.mem_of_getElem? (i := 4) rfl)) (hw _ (List.mem_of_getElem? (i := 5) rfl)) (notFace_of_selects (args := #[]) (mvT hZ (hw _ (List.mem_of_getElem? (i := 7) rfl)))) (hw _ (List.mem_of_getElem? (i := 7) rfl)) (hw _ (List.mem_of_getElem? (i := 6) rfl)) (hw _ (List.mem_of_getElem? (i := 2) rfl)) (hw _ (List.mem_of_getElem? (i := 8) rfl)) (by decide) (a := u2) E_u2 (rm_adm0 l Z a0 hw u2 (1 : Int32) h0 n0 Z0 F_makes_u2 (by first | decide | assumption | rfl | (intro _; rfl))) (by rw [hml]; rfl) e9 [(.int (0 : Int32))] rfl rfl (W := 0) (Nat.le_of_eq rfl) (by decide) (by decide) (by decide) (by decide) (lenOf pd_0 rfl) (hb hby at_69) rfl fun v10 T10 L10 X10 hQ10 => ?_
      obtain ⟨rfl, Nq10, eh10⟩ := hQ10
      have N10 := Fr.app N0 Nq10
      show Ga _ _ _ _ _ _ _ _ _ _ _ [(.int (1 : Int32))]
      refine g_istore X10 hx (Ls' := #[.val (.int p0), .val (.int p1), .val (.int (1 : Int32)), .val (.int (0 : Int32)), .val (.ref u2), .val (.int (1 : Int32)), .val (.int (1 : Int32))]) (hb hby at_72) rfl rfl ?_
      refine g_iload X10 hx (hb hby at_74) rfl rfl ?_
      refine g_iload X10 hx (hb hby at_76) rfl rfl ?_
      refine g_icmpN X10 hx (hb hby at_78) rfl (XT.ii_ne_f (by decide : (1 : Int32) = (1 : Int32))) ?_
      refine g_aload X10 hx (hb hby at_81) rfl rfl rfl ?_
      refine g_iconst X10 hx (r := (0 : Int32)) (hb hby at_83) rfl rfl ?_
      refine g_virtual X10 hx hZ hown (hw _ (List.mem_of_getElem? (i := 4) rfl)) (hw _ (List.mem_of_getElem? (i := 5) rfl)) (notFace_of_selects (args := #[]) (mvT hZ (hw _ (List.mem_of_getElem? (i := 7) rfl)))) (hw _ (List.mem_of_getElem? (i := 7) rfl)) (hw _ (List.mem_of_getElem? (i := 6) rfl)) (hw _ (List.mem_of_getElem? (i := 2) rfl)) (hw _ (List.mem_of_getElem? (i := 8) rfl)) (by decide) (a := u2) E_u2 (rm_adm0 l Z a0 hw u2 (1 : Int32) h0 n0 Z0 F_makes_u2 (by first | decide | assumption | rfl | (intro _; rfl))) (by rw [hml]; rfl) eh10 [(.int (0 : Int32))] rfl rfl (W := 0) (Nat.le_of_eq rfl) (by decide) (by decide) (by decide) (by decide) (lenOf pd_0 rfl) (hb hby at_84) rfl fun v11 T11 L11 X11 hQ11 => ?_
      obtain ⟨rfl, Nq11, eh11⟩ := hQ11
      have N11 := Fr.app N10 Nq11
      show Ga _ _ _ _ _ _ _ _ _ _ _ [(.int (1 : Int32))]
      refine g_aload X11 hx (hb hby at_87) rfl rfl rfl ?_
      refine g_virtual X11 hx hZ hown (hw _ (List.mem_of_getElem? (i := 13) rfl)) (hw _ (List.mem_of_getElem? (i := 14) rfl)) (notFace_of_selects (args := #[]) (mvT hZ (hw _ (List.mem_of_getElem? (i := 16) rfl)))) (hw _ (List.mem_of_getElem? (i := 16) rfl)) (hw _ (List.mem_of_getElem? (i := 15) rfl)) (hw _ (List.mem_of_getElem? (i := 2) rfl)) (hw _ (List.mem_of_getElem? (i := 17) rfl)) (by decide) (a := u2) E_u2 (rm_makes l Z a0 hw u2 (1 : Int32) h0 n0 Z0 F_makes_u2 (by first | decide | assumption | rfl | (intro _; rfl))) (by rw [hml]; rfl) eh11 [] rfl rfl (W := 1) (Nat.le_of_eq rfl) (by decide) (by decide) (by decide) (by decide) (lenOf pd_1 rfl) (hb hby at_89) rfl fun v12 T12 L12 X12 hQ12 => ?_
      obtain ⟨rfl, Nq12, eh12⟩ := hQ12
      have N12 := Fr.app N11 Nq12
      show Ga _ _ _ _ _ _ _ _ _ _ _ [(.int (1 : Int32)), (.int (1 : Int32))]
      refine g_icmpN X12 hx (hb hby at_92) rfl (XT.ii_ne_f (by decide : (1 : Int32) = (1 : Int32))) ?_
      refine g_iconst X12 hx (r := (1 : Int32)) (hb hby at_95) rfl rfl ?_
      refine g_goto X12 hx (q := 100) (hb hby at_96) (by decide) (by decide) ?_
      exact g_retN X12 hx (t := .boolean) (r := (1 : Int32)) hret (by simp) hlk (hb hby at_100) rfl (by decide) (by decide) (by rw [eh12]; exact ⟨rfl, N12⟩)
    · skip
      refine g_ifN X0 hx (hb hby at_10) rfl (XT.i0_eq_f hc10) ?_
      refine g_iconst X0 hx (r := (1 : Int32)) (hb hby at_13) rfl rfl ?_
      refine g_goto X0 hx (q := 18) (hb hby at_14) (by decide) (by decide) ?_
      refine g_istoreN X0 hx (Ls' := #[.val (.int p0), .val (.int p1), .val (.int (1 : Int32)), .val (.int (1 : Int32)), .unset, .unset, .unset]) (hb hby at_18) rfl rfl ?_
      refine g_iloadN X0 hx (hb hby at_19) rfl rfl ?_
      refine g_ifY X0 hx (q := 34) (hb hby at_20) (XT.i0_ne_t (by decide : ¬ (1 : Int32) = (0 : Int32))) (by decide) (by decide) ?_
      refine g_iloadN X0 hx (hb hby at_34) rfl rfl ?_
      refine g_iconst X0 hx (r := (1 : Int32)) (hb hby at_35) rfl rfl ?_
      refine g_icmpN X0 hx (hb hby at_36) rfl (XT.ii_ne_f (by decide : (1 : Int32) = (1 : Int32))) ?_
      refine g_getS X0 hx hZ hown (host := "") (Or.inl (hw _ (List.mem_of_getElem? (i := 20) rfl))) Via.refl e0 S_IF_ABSENT (hb hby at_39) rfl fun T13 X13 e13 => ?_
      refine g_astore X13 hx (Ls' := #[.val (.int p0), .val (.int p1), .val (.int (1 : Int32)), .val (.int (1 : Int32)), .val (.ref u2), .unset, .unset]) (hb hby at_42) rfl rfl rfl ?_
      refine g_iloadN X13 hx (hb hby at_44) rfl rfl ?_
      refine g_ifY X13 hx (q := 52) (hb hby at_45) (XT.i0_ne_t (by decide : ¬ (1 : Int32) = (0 : Int32))) (by decide) (by decide) ?_
      refine g_iconst X13 hx (r := (0 : Int32)) (hb hby at_52) rfl rfl ?_
      refine g_istore X13 hx (Ls' := #[.val (.int p0), .val (.int p1), .val (.int (1 : Int32)), .val (.int (1 : Int32)), .val (.ref u2), .val (.int (0 : Int32)), .unset]) (hb hby at_53) rfl rfl ?_
      refine g_goto X13 hx (q := 66) (hb hby at_55) (by decide) (by decide) ?_
      refine g_aload X13 hx (hb hby at_66) rfl rfl rfl ?_
      refine g_iloadN X13 hx (hb hby at_68) rfl rfl ?_
      refine g_virtual X13 hx hZ hown (hw _ (List.mem_of_getElem? (i := 4) rfl)) (hw _ (List.mem_of_getElem? (i := 5) rfl)) (notFace_of_selects (args := #[]) (mvT hZ (hw _ (List.mem_of_getElem? (i := 7) rfl)))) (hw _ (List.mem_of_getElem? (i := 7) rfl)) (hw _ (List.mem_of_getElem? (i := 6) rfl)) (hw _ (List.mem_of_getElem? (i := 2) rfl)) (hw _ (List.mem_of_getElem? (i := 8) rfl)) (by decide) (a := u2) E_u2 (rm_adm1 l Z a0 hw u2 (0 : Int32) h0 n0 Z0 F_replaces_u2 (by first | decide | assumption | rfl | (intro _; rfl))) (by rw [hml]; rfl) e13 [(.int (1 : Int32))] rfl rfl (W := 0) (Nat.le_of_eq rfl) (by decide) (by decide) (by decide) (by decide) (lenOf pd_0 rfl) (hb hby at_69) rfl fun v14 T14 L14 X14 hQ14 => ?_
      obtain ⟨rfl, Nq14, eh14⟩ := hQ14
      have N14 := Fr.app N0 Nq14
      show Ga _ _ _ _ _ _ _ _ _ _ _ [(.int (0 : Int32))]
      refine g_istore X14 hx (Ls' := #[.val (.int p0), .val (.int p1), .val (.int (1 : Int32)), .val (.int (1 : Int32)), .val (.ref u2), .val (.int (0 : Int32)), .val (.int (0 : Int32))]) (hb hby at_72) rfl rfl ?_
      refine g_iload X14 hx (hb hby at_74) rfl rfl ?_
      refine g_iload X14 hx (hb hby at_76) rfl rfl ?_
      refine g_icmpN X14 hx (hb hby at_78) rfl (XT.ii_ne_f (by decide : (0 : Int32) = (0 : Int32))) ?_
      refine g_aload X14 hx (hb hby at_81) rfl rfl rfl ?_
      refine g_iconst X14 hx (r := (0 : Int32)) (hb hby at_83) rfl rfl ?_
      refine g_virtual X14 hx hZ hown (hw _ (List.mem_of_getElem? (i := 4) rfl)) (hw _ (List.mem_of_getElem? (i := 5) rfl)) (notFace_of_selects (args := #[]) (mvT hZ (hw _ (List.mem_of_getElem? (i := 7) rfl)))) (hw _ (List.mem_of_getElem? (i := 7) rfl)) (hw _ (List.mem_of_getElem? (i := 6) rfl)) (hw _ (List.mem_of_getElem? (i := 2) rfl)) (hw _ (List.mem_of_getElem? (i := 8) rfl)) (by decide) (a := u2) E_u2 (rm_adm0 l Z a0 hw u2 (1 : Int32) h0 n0 Z0 F_makes_u2 (by first | decide | assumption | rfl | (intro _; rfl))) (by rw [hml]; rfl) eh14 [(.int (0 : Int32))] rfl rfl (W := 0) (Nat.le_of_eq rfl) (by decide) (by decide) (by decide) (by decide) (lenOf pd_0 rfl) (hb hby at_84) rfl fun v15 T15 L15 X15 hQ15 => ?_
      obtain ⟨rfl, Nq15, eh15⟩ := hQ15
      have N15 := Fr.app N14 Nq15
      show Ga _ _ _ _ _ _ _ _ _ _ _ [(.int (1 : Int32))]
      refine g_aload X15 hx (hb hby at_87) rfl rfl rfl ?_
      refine g_virtual X15 hx hZ hown (hw _ (List.mem_of_getElem? (i := 13) rfl)) (hw _ (List.mem_of_getElem? (i := 14) rfl)) (notFace_of_selects (args := #[]) (mvT hZ (hw _ (List.mem_of_getElem? (i := 16) rfl)))) (hw _ (List.mem_of_getElem? (i := 16) rfl)) (hw _ (List.mem_of_getElem? (i := 15) rfl)) (hw _ (List.mem_of_getElem? (i := 2) rfl)) (hw _ (List.mem_of_getElem? (i := 17) rfl)) (by decide) (a := u2) E_u2 (rm_makes l Z a0 hw u2 (1 : Int32) h0 n0 Z0 F_makes_u2 (by first | decide | assumption | rfl | (intro _; rfl))) (by rw [hml]; rfl) eh15 [] rfl rfl (W := 1) (Nat.le_of_eq rfl) (by decide) (by decide) (by decide) (by decide) (lenOf pd_1 rfl) (hb hby at_89) rfl fun v16 T16 L16 X16 hQ16 => ?_
      obtain ⟨rfl, Nq16, eh16⟩ := hQ16
      have N16 := Fr.app N15 Nq16
      show Ga _ _ _ _ _ _ _ _ _ _ _ [(.int (1 : Int32)), (.int (1 : Int32))]
      refine g_icmpN X16 hx (hb hby at_92) rfl (XT.ii_ne_f (by decide : (1 : Int32) = (1 : Int32))) ?_
      refine g_iconst X16 hx (r := (1 : Int32)) (hb hby at_95) rfl rfl ?_
      refine g_goto X16 hx (q := 100) (hb hby at_96) (by decide) (by decide) ?_
      exact g_retN X16 hx (t := .boolean) (r := (1 : Int32)) hret (by simp) hlk (hb hby at_100) rfl (by decide) (by decide) (by rw [eh16]; exact ⟨rfl, N16⟩)
  · skip
    refine g_iloadN X0 hx (hb hby at_7) rfl rfl ?_
    refine g_iconst X0 hx (r := (1 : Int32)) (hb hby at_8) rfl rfl ?_
    refine g_iand X0 hx (hb hby at_9) rfl rfl ?_
    by_cases hc10 : (p1 &&& (1 : Int32)) = (0 : Int32)
    · skip
      refine g_ifY X0 hx (q := 17) (hb hby at_10) (XT.i0_eq_t hc10) (by decide) (by decide) ?_
      refine g_iconst X0 hx (r := (0 : Int32)) (hb hby at_17) rfl rfl ?_
      refine g_istoreN X0 hx (Ls' := #[.val (.int p0), .val (.int p1), .val (.int (2 : Int32)), .val (.int (0 : Int32)), .unset, .unset, .unset]) (hb hby at_18) rfl rfl ?_
      refine g_iloadN X0 hx (hb hby at_19) rfl rfl ?_
      refine g_ifY X0 hx (q := 34) (hb hby at_20) (XT.i0_ne_t (by decide : ¬ (2 : Int32) = (0 : Int32))) (by decide) (by decide) ?_
      refine g_iloadN X0 hx (hb hby at_34) rfl rfl ?_
      refine g_iconst X0 hx (r := (1 : Int32)) (hb hby at_35) rfl rfl ?_
      refine g_icmpY X0 hx (q := 58) (hb hby at_36) (XT.ii_ne_t (by decide : ¬ (2 : Int32) = (1 : Int32))) (by decide) (by decide) ?_
      refine g_getS X0 hx hZ hown (host := "") (Or.inl (hw _ (List.mem_of_getElem? (i := 18) rfl))) Via.refl e0 S_IF_PRESENT (hb hby at_58) rfl fun T17 X17 e17 => ?_
      refine g_astore X17 hx (Ls' := #[.val (.int p0), .val (.int p1), .val (.int (2 : Int32)), .val (.int (0 : Int32)), .val (.ref u1), .unset, .unset]) (hb hby at_61) rfl rfl rfl ?_
      refine g_iloadN X17 hx (hb hby at_63) rfl rfl ?_
      refine g_istore X17 hx (Ls' := #[.val (.int p0), .val (.int p1), .val (.int (2 : Int32)), .val (.int (0 : Int32)), .val (.ref u1), .val (.int (0 : Int32)), .unset]) (hb hby at_64) rfl rfl ?_
      refine g_aload X17 hx (hb hby at_66) rfl rfl rfl ?_
      refine g_iloadN X17 hx (hb hby at_68) rfl rfl ?_
      refine g_virtual X17 hx hZ hown (hw _ (List.mem_of_getElem? (i := 4) rfl)) (hw _ (List.mem_of_getElem? (i := 5) rfl)) (notFace_of_selects (args := #[]) (mvT hZ (hw _ (List.mem_of_getElem? (i := 7) rfl)))) (hw _ (List.mem_of_getElem? (i := 7) rfl)) (hw _ (List.mem_of_getElem? (i := 6) rfl)) (hw _ (List.mem_of_getElem? (i := 2) rfl)) (hw _ (List.mem_of_getElem? (i := 8) rfl)) (by decide) (a := u1) E_u1 (rm_adm0 l Z a0 hw u1 (0 : Int32) h0 n0 Z0 F_makes_u1 (by first | decide | assumption | rfl | (intro _; rfl))) (by rw [hml]; rfl) e17 [(.int (0 : Int32))] rfl rfl (W := 0) (Nat.le_of_eq rfl) (by decide) (by decide) (by decide) (by decide) (lenOf pd_0 rfl) (hb hby at_69) rfl fun v18 T18 L18 X18 hQ18 => ?_
      obtain ⟨rfl, Nq18, eh18⟩ := hQ18
      have N18 := Fr.app N0 Nq18
      show Ga _ _ _ _ _ _ _ _ _ _ _ [(.int (0 : Int32))]
      refine g_istore X18 hx (Ls' := #[.val (.int p0), .val (.int p1), .val (.int (2 : Int32)), .val (.int (0 : Int32)), .val (.ref u1), .val (.int (0 : Int32)), .val (.int (0 : Int32))]) (hb hby at_72) rfl rfl ?_
      refine g_iload X18 hx (hb hby at_74) rfl rfl ?_
      refine g_iload X18 hx (hb hby at_76) rfl rfl ?_
      refine g_icmpN X18 hx (hb hby at_78) rfl (XT.ii_ne_f (by decide : (0 : Int32) = (0 : Int32))) ?_
      refine g_aload X18 hx (hb hby at_81) rfl rfl rfl ?_
      refine g_iconst X18 hx (r := (0 : Int32)) (hb hby at_83) rfl rfl ?_
      refine g_virtual X18 hx hZ hown (hw _ (List.mem_of_getElem? (i := 4) rfl)) (hw _ (List.mem_of_getElem? (i := 5) rfl)) (notFace_of_selects (args := #[]) (mvT hZ (hw _ (List.mem_of_getElem? (i := 7) rfl)))) (hw _ (List.mem_of_getElem? (i := 7) rfl)) (hw _ (List.mem_of_getElem? (i := 6) rfl)) (hw _ (List.mem_of_getElem? (i := 2) rfl)) (hw _ (List.mem_of_getElem? (i := 8) rfl)) (by decide) (a := u1) E_u1 (rm_adm0 l Z a0 hw u1 (0 : Int32) h0 n0 Z0 F_makes_u1 (by first | decide | assumption | rfl | (intro _; rfl))) (by rw [hml]; rfl) eh18 [(.int (0 : Int32))] rfl rfl (W := 0) (Nat.le_of_eq rfl) (by decide) (by decide) (by decide) (by decide) (lenOf pd_0 rfl) (hb hby at_84) rfl fun v19 T19 L19 X19 hQ19 => ?_
      obtain ⟨rfl, Nq19, eh19⟩ := hQ19
      have N19 := Fr.app N18 Nq19
      show Ga _ _ _ _ _ _ _ _ _ _ _ [(.int (0 : Int32))]
      refine g_aload X19 hx (hb hby at_87) rfl rfl rfl ?_
      refine g_virtual X19 hx hZ hown (hw _ (List.mem_of_getElem? (i := 13) rfl)) (hw _ (List.mem_of_getElem? (i := 14) rfl)) (notFace_of_selects (args := #[]) (mvT hZ (hw _ (List.mem_of_getElem? (i := 16) rfl)))) (hw _ (List.mem_of_getElem? (i := 16) rfl)) (hw _ (List.mem_of_getElem? (i := 15) rfl)) (hw _ (List.mem_of_getElem? (i := 2) rfl)) (hw _ (List.mem_of_getElem? (i := 17) rfl)) (by decide) (a := u1) E_u1 (rm_makes l Z a0 hw u1 (0 : Int32) h0 n0 Z0 F_makes_u1 (by first | decide | assumption | rfl | (intro _; rfl))) (by rw [hml]; rfl) eh19 [] rfl rfl (W := 1) (Nat.le_of_eq rfl) (by decide) (by decide) (by decide) (by decide) (lenOf pd_1 rfl) (hb hby at_89) rfl fun v20 T20 L20 X20 hQ20 => ?_
      obtain ⟨rfl, Nq20, eh20⟩ := hQ20
      have N20 := Fr.app N19 Nq20
      show Ga _ _ _ _ _ _ _ _ _ _ _ [(.int (0 : Int32)), (.int (0 : Int32))]
      refine g_icmpN X20 hx (hb hby at_92) rfl (XT.ii_ne_f (by decide : (0 : Int32) = (0 : Int32))) ?_
      refine g_iconst X20 hx (r := (1 : Int32)) (hb hby at_95) rfl rfl ?_
      refine g_goto X20 hx (q := 100) (hb hby at_96) (by decide) (by decide) ?_
      exact g_retN X20 hx (t := .boolean) (r := (1 : Int32)) hret (by simp) hlk (hb hby at_100) rfl (by decide) (by decide) (by rw [eh20]; exact ⟨rfl, N20⟩)
    · skip
      refine g_ifN X0 hx (hb hby at_10) rfl (XT.i0_eq_f hc10) ?_
      refine g_iconst X0 hx (r := (1 : Int32)) (hb hby at_13) rfl rfl ?_
      refine g_goto X0 hx (q := 18) (hb hby at_14) (by decide) (by decide) ?_
      refine g_istoreN X0 hx (Ls' := #[.val (.int p0), .val (.int p1), .val (.int (2 : Int32)), .val (.int (1 : Int32)), .unset, .unset, .unset]) (hb hby at_18) rfl rfl ?_
      refine g_iloadN X0 hx (hb hby at_19) rfl rfl ?_
      refine g_ifY X0 hx (q := 34) (hb hby at_20) (XT.i0_ne_t (by decide : ¬ (2 : Int32) = (0 : Int32))) (by decide) (by decide) ?_
      refine g_iloadN X0 hx (hb hby at_34) rfl rfl ?_
      refine g_iconst X0 hx (r := (1 : Int32)) (hb hby at_35) rfl rfl ?_
      refine g_icmpY X0 hx (q := 58) (hb hby at_36) (XT.ii_ne_t (by decide : ¬ (2 : Int32) = (1 : Int32))) (by decide) (by decide) ?_
      refine g_getS X0 hx hZ hown (host := "") (Or.inl (hw _ (List.mem_of_getElem? (i := 18) rfl))) Via.refl e0 S_IF_PRESENT (hb hby at_58) rfl fun T21 X21 e21 => ?_
      refine g_astore X21 hx (Ls' := #[.val (.int p0), .val (.int p1), .val (.int (2 : Int32)), .val (.int (1 : Int32)), .val (.ref u1), .unset, .unset]) (hb hby at_61) rfl rfl rfl ?_
      refine g_iloadN X21 hx (hb hby at_63) rfl rfl ?_
      refine g_istore X21 hx (Ls' := #[.val (.int p0), .val (.int p1), .val (.int (2 : Int32)), .val (.int (1 : Int32)), .val (.ref u1), .val (.int (1 : Int32)), .unset]) (hb hby at_64) rfl rfl ?_
      refine g_aload X21 hx (hb hby at_66) rfl rfl rfl ?_
      refine g_iloadN X21 hx (hb hby at_68) rfl rfl ?_
      refine g_virtual X21 hx hZ hown (hw _ (List.mem_of_getElem? (i := 4) rfl)) (hw _ (List.mem_of_getElem? (i := 5) rfl)) (notFace_of_selects (args := #[]) (mvT hZ (hw _ (List.mem_of_getElem? (i := 7) rfl)))) (hw _ (List.mem_of_getElem? (i := 7) rfl)) (hw _ (List.mem_of_getElem? (i := 6) rfl)) (hw _ (List.mem_of_getElem? (i := 2) rfl)) (hw _ (List.mem_of_getElem? (i := 8) rfl)) (by decide) (a := u1) E_u1 (rm_adm1 l Z a0 hw u1 (1 : Int32) h0 n0 Z0 F_replaces_u1 (by first | decide | assumption | rfl | (intro _; rfl))) (by rw [hml]; rfl) e21 [(.int (1 : Int32))] rfl rfl (W := 0) (Nat.le_of_eq rfl) (by decide) (by decide) (by decide) (by decide) (lenOf pd_0 rfl) (hb hby at_69) rfl fun v22 T22 L22 X22 hQ22 => ?_
      obtain ⟨rfl, Nq22, eh22⟩ := hQ22
      have N22 := Fr.app N0 Nq22
      show Ga _ _ _ _ _ _ _ _ _ _ _ [(.int (1 : Int32))]
      refine g_istore X22 hx (Ls' := #[.val (.int p0), .val (.int p1), .val (.int (2 : Int32)), .val (.int (1 : Int32)), .val (.ref u1), .val (.int (1 : Int32)), .val (.int (1 : Int32))]) (hb hby at_72) rfl rfl ?_
      refine g_iload X22 hx (hb hby at_74) rfl rfl ?_
      refine g_iload X22 hx (hb hby at_76) rfl rfl ?_
      refine g_icmpN X22 hx (hb hby at_78) rfl (XT.ii_ne_f (by decide : (1 : Int32) = (1 : Int32))) ?_
      refine g_aload X22 hx (hb hby at_81) rfl rfl rfl ?_
      refine g_iconst X22 hx (r := (0 : Int32)) (hb hby at_83) rfl rfl ?_
      refine g_virtual X22 hx hZ hown (hw _ (List.mem_of_getElem? (i := 4) rfl)) (hw _ (List.mem_of_getElem? (i := 5) rfl)) (notFace_of_selects (args := #[]) (mvT hZ (hw _ (List.mem_of_getElem? (i := 7) rfl)))) (hw _ (List.mem_of_getElem? (i := 7) rfl)) (hw _ (List.mem_of_getElem? (i := 6) rfl)) (hw _ (List.mem_of_getElem? (i := 2) rfl)) (hw _ (List.mem_of_getElem? (i := 8) rfl)) (by decide) (a := u1) E_u1 (rm_adm0 l Z a0 hw u1 (0 : Int32) h0 n0 Z0 F_makes_u1 (by first | decide | assumption | rfl | (intro _; rfl))) (by rw [hml]; rfl) eh22 [(.int (0 : Int32))] rfl rfl (W := 0) (Nat.le_of_eq rfl) (by decide) (by decide) (by decide) (by decide) (lenOf pd_0 rfl) (hb hby at_84) rfl fun v23 T23 L23 X23 hQ23 => ?_
      obtain ⟨rfl, Nq23, eh23⟩ := hQ23
      have N23 := Fr.app N22 Nq23
      show Ga _ _ _ _ _ _ _ _ _ _ _ [(.int (0 : Int32))]
      refine g_aload X23 hx (hb hby at_87) rfl rfl rfl ?_
      refine g_virtual X23 hx hZ hown (hw _ (List.mem_of_getElem? (i := 13) rfl)) (hw _ (List.mem_of_getElem? (i := 14) rfl)) (notFace_of_selects (args := #[]) (mvT hZ (hw _ (List.mem_of_getElem? (i := 16) rfl)))) (hw _ (List.mem_of_getElem? (i := 16) rfl)) (hw _ (List.mem_of_getElem? (i := 15) rfl)) (hw _ (List.mem_of_getElem? (i := 2) rfl)) (hw _ (List.mem_of_getElem? (i := 17) rfl)) (by decide) (a := u1) E_u1 (rm_makes l Z a0 hw u1 (0 : Int32) h0 n0 Z0 F_makes_u1 (by first | decide | assumption | rfl | (intro _; rfl))) (by rw [hml]; rfl) eh23 [] rfl rfl (W := 1) (Nat.le_of_eq rfl) (by decide) (by decide) (by decide) (by decide) (lenOf pd_1 rfl) (hb hby at_89) rfl fun v24 T24 L24 X24 hQ24 => ?_
      obtain ⟨rfl, Nq24, eh24⟩ := hQ24
      have N24 := Fr.app N23 Nq24
      show Ga _ _ _ _ _ _ _ _ _ _ _ [(.int (0 : Int32)), (.int (0 : Int32))]
      refine g_icmpN X24 hx (hb hby at_92) rfl (XT.ii_ne_f (by decide : (0 : Int32) = (0 : Int32))) ?_
      refine g_iconst X24 hx (r := (1 : Int32)) (hb hby at_95) rfl rfl ?_
      refine g_goto X24 hx (q := 100) (hb hby at_96) (by decide) (by decide) ?_
      exact g_retN X24 hx (t := .boolean) (r := (1 : Int32)) hret (by simp) hlk (hb hby at_100) rfl (by decide) (by decide) (by rw [eh24]; exact ⟨rfl, N24⟩)
set_option maxRecDepth 65536 in
set_option maxHeartbeats 40000000 in
theorem comes_1 {Post : Tables → Env → Array Value → State → Outcome → State → Prop} (hpost : ∀ tb e args s v u, (limb_1_1.after args s (.returned v) u = true ∧ limb_1_2.after args s (.returned v) u = true ∧ True) → FrameEnd s (.returned v) u (Jvm.fieldLocs frame_1_writes args s ++ Jvm.arrayLocs frame_1_arrays args s ++ Jvm.staticLocs frame_1_statics s) 0 0 → Post tb e args s (.returned v) u) :
    ArmFor flags0 classFile x code maxLocals ret World_1 tables_1 room_1 Calls_1 rest_1 Pre_1 Post := by
  intro l hfl _ _ p e ha hc hk s m args below hf hA hF happ hP
  obtain ⟨hcalls, hrest, hpre⟩ := hP
  obtain ⟨-, -, -, hnamed, -, -, -, hat⟩ := (Spec.applies_iff hf).mp happ
  obtain ⟨hg, hn⟩ := and_e (Cond.before_iff.mp (show (Jvm.Cond.and given_1 narrow_1).before args s = true from hpre))
  obtain ⟨hcn, hg1⟩ := and_e hg
  obtain ⟨k1, hg2⟩ := and_e hg1
  have k2 := hg2
  obtain ⟨w0, w1, rfl⟩ : ∃ w0 w1 : Value, args = #[w0, w1] := by
    have hs : args.size = 2 := by simpa [Cond.value, given_1] using hcn
    obtain ⟨L⟩ := args
    match L, hs with
    | [w0, w1], _ => exact ⟨w0, w1, rfl⟩
  have hw := fun d (hd : d ∈ tables_1) => atoms_spec (ws := Jvm.Cond.code x code maxLocals ret :: tables_1) hat d (List.mem_cons_of_mem _ hd)
  have hfit : Fit s := fun {y c} hc i hi => by
    obtain ⟨ha, rfl⟩ := Array.getElem?_eq_some_iff.mp hc
    have q := List.all_eq_true.mp ((Array.all_eq_true_iff_forall_mem.mp hF) _ (Array.getElem_mem ha)) i (List.mem_range.mpr hi)
    simpa [Array.getElem?_eq_getElem hi] using q
  obtain ⟨i0, ei0⟩ := is_v k1
  obtain rfl : w0 = (.int i0) := Option.some.inj ei0
  obtain ⟨i1, ei1⟩ := is_v k2
  obtain rfl : w1 = (.int i1) := Option.some.inj ei1
  obtain ⟨m1, m_r1⟩ := and_e hn
  obtain ⟨m2, m_r2⟩ := and_e m_r1
  obtain ⟨m3, m_r3⟩ := and_e m_r2
  obtain ⟨m4, m_r4⟩ := and_e m_r3
  obtain ⟨m5, m_r5⟩ := and_e m_r4
  obtain ⟨m6, m_r6⟩ := and_e m_r5
  obtain ⟨m7, m_r7⟩ := and_e m_r6
  obtain ⟨m8, m_r8⟩ := and_e m_r7
  have m9 := m_r8
  obtain ⟨u0, eu0⟩ := exa_v m1
  have Su0 := Sta.start eu0 (Or.inr ⟨hw _ (List.mem_of_getElem? (i := 2) rfl), hw _ (List.mem_of_getElem? (i := 3) rfl)⟩)
  have Eu0 := Exa.start eu0 m1
  have Fu0_replaces := Fld.start ((fld_at eu0).symm.trans (own_eqi m2))
  have Fu0_makes := Fld.start ((fld_at eu0).symm.trans (own_eqi m3))
  obtain ⟨u1, eu1⟩ := exa_v m4
  have Su1 := Sta.start eu1 (Or.inr ⟨hw _ (List.mem_of_getElem? (i := 2) rfl), hw _ (List.mem_of_getElem? (i := 19) rfl)⟩)
  have Eu1 := Exa.start eu1 m4
  have Fu1_replaces := Fld.start ((fld_at eu1).symm.trans (own_eqi m5))
  have Fu1_makes := Fld.start ((fld_at eu1).symm.trans (own_eqi m6))
  obtain ⟨u2, eu2⟩ := exa_v m7
  have Su2 := Sta.start eu2 (Or.inr ⟨hw _ (List.mem_of_getElem? (i := 2) rfl), hw _ (List.mem_of_getElem? (i := 21) rfl)⟩)
  have Eu2 := Exa.start eu2 m7
  have Fu2_makes := Fld.start ((fld_at eu2).symm.trans (own_eqi m8))
  have Fu2_replaces := Fld.start ((fld_at eu2).symm.trans (own_eqi m9))
  obtain ⟨n, o, h1, h2, h3, _, L, rfl, ⟨rfl, N⟩, hq⟩ := rm_law l s _ hw tables_1 i0 i1 u0 u1 u2 s.heap s.heap.size (Nat.le_refl _) Su0 Eu0 Fu0_replaces Fu0_makes Su1 Eu1 Fu1_replaces Fu1_makes Su2 Eu2 Fu2_makes Fu2_replaces p e ha hc hk s m _ below hf ((Spec.applies_iff_loose hf).mp happ).1 ⟨rfl, State.Warmed39.refl s, rfl⟩ trivial
  refine ⟨n, _, h1, h2, h3, hpost _ _ _ _ _ _ ⟨Cond.after_iff.mpr rfl, Cond.after_iff.mpr (eq_i res_at (Term.int_eval (1)) rfl), trivial⟩ ⟨hq.1, hq.2.1, (hq.2.2.sift fun y hy => Or.inr (N y hy)).mono (by decide) (by decide)⟩⟩
theorem main_1_1 : Claimed_1_1 := comes_1 fun _ _ _ _ _ _ h hF => ⟨h.1, hF⟩
theorem main_1_2 : Claimed_1_2 := comes_1 fun _ _ _ _ _ _ h hF => ⟨h.2.1, hF⟩
end Jvm.Pilot.@@N@@
namespace Jvm.Pilot.@@N@@
open Jvm Jvm.ClassFile Sem Op Lib Jvm.Free Jvm.Stand Jvm.Pilot.@@N@@.Jvm.D
/-! MADE BY PROGRAM (witnessworld.py) out of the Statement's table words and the real class files: 12 classes; the members and pool entries that the words name. The judged class is class 1, her method 1. -/
namespace start1
open Jvm.ClassFile
def u (s : String) : CpInfo := .utf8 (stringToUtf16 s)
/-- a pool by its gaps: so many unusable entries, then the entry; so many at the end -/
def gap : Nat → List CpInfo → List CpInfo
  | 0, r => r
  | n + 1, r => .unusable :: gap n r
def poolList (es : List (Nat × CpInfo)) (last : Nat) : List CpInfo := es.foldr (fun e r => gap e.1 (e.2 :: r)) (gap last [])
def pool (es : List (Nat × CpInfo)) (last : Nat) : Array CpInfo := ⟨poolList es last⟩
def fileOf (pool : Array CpInfo) (this : Nat) (attrs : Array Attribute := #[]) (ms : Array MethodInfo := #[]) (fl : Nat := 33) (sup : Nat := 0) (ifs : Array Nat := #[]) (fds : Array FieldInfo := #[]) : ClassFile where
  minorVersion := 0
  majorVersion := 65
  constantPool := pool
  accessFlags := fl
  thisClass := this
  superClass := sup
  interfaces := ifs
  fields := fds
  methods := ms
  attributes := attrs
def plain (name : String) (sup : Option ClassId) : Class where
  name := name
  kind := .ordinary
  loader := none
  accessFlags := 33
  super := sup
  interfaces := #[]
  cf := none
  fields := #[]
  methods := #[]
  instanceTypes := #[]
  staticTypes := #[]
  resolved := #[]
  callSites := []
  init := .initialized
  statics := none
  mirror := none

def pool0 : Array CpInfo := pool [(5, u "<init>"), (0, u "()V"), (1, .class_ 10), (1, u "java/lang/Object")] 113

def k0m0 : Method := { name := "<init>", desc := "()V", sig := { parameters := [], returnType := none }, accessFlags := 1, code := none }
/-- java/lang/Object -/
def k0 : Class := { plain "java/lang/Object" none with
  accessFlags := 33
  interfaces := #[]
  cf := some (fileOf pool0 8 #[] #[{ accessFlags := 1, nameIndex := 5, descriptorIndex := 6, attributes := #[] }] 33 0 #[] #[])
  fields := #[]
  methods := #[k0m0]
  instanceTypes := #[]
  staticTypes := #[]
  resolved := Array.replicate 124 none
  statics := none }

def pool1 : Array CpInfo := pool [(2, .class_ 4), (1, u "java/lang/Object"), (0, u "<init>"), (0, u "()V"), (0, .integer 2147483647), (0, .fieldref 9 10), (0, .class_ 11), (0, .nameAndType 12 13), (0, u "com/example/covering/covering/PutCondition"), (0, u "ALWAYS"), (0, u "Lcom/example/covering/covering/PutCondition;"), (0, .fieldref 9 15), (0, .nameAndType 16 13), (0, u "IF_ABSENT"), (0, .fieldref 9 18), (0, .nameAndType 19 13), (0, u "IF_PRESENT"), (0, .methodref 9 21), (0, .nameAndType 22 23), (0, u "admits"), (0, u "(Z)Z"), (0, .methodref 9 25), (0, .nameAndType 26 27), (0, u "makesRecords"), (0, u "()Z"), (0, .class_ 29), (0, u "com/example/covering/covering/PutConditionAdmitsPinLaw"), (2, u "law"), (0, u "(II)Z")] 3

def k1m0 : Method := { name := "<init>", desc := "()V", sig := { parameters := [], returnType := none }, accessFlags := 1, code := none }
def k1c1 : Code := { maxStack := 2, maxLocals := 7, code := code, exceptionTable := #[], attributes := #[] }
def k1m1 : Method := { name := "law", desc := "(II)Z", sig := { parameters := [.int, .int], returnType := some .boolean }, accessFlags := 9, code := some k1c1 }
/-- com/example/covering/covering/PutConditionAdmitsPinLaw -/
def k1 : Class := { plain "com/example/covering/covering/PutConditionAdmitsPinLaw" (some 0) with
  accessFlags := 49
  interfaces := #[]
  cf := some (fileOf pool1 28 #[] #[{ accessFlags := 1, nameIndex := 5, descriptorIndex := 6, attributes := #[] }, { accessFlags := 9, nameIndex := 32, descriptorIndex := 33, attributes := #[] }] 49 2 #[] #[])
  fields := #[]
  methods := #[k1m0, k1m1]
  instanceTypes := #[]
  staticTypes := #[]
  resolved := Array.replicate 37 none
  statics := none }

def pool2 : Array CpInfo := pool [(1, .class_ 2), (0, u "java/lang/constant/Constable"), (0, .class_ 4), (0, u "java/lang/Object")] 6

/-- java/lang/constant/Constable -/
def k2 : Class := { plain "java/lang/constant/Constable" (some 0) with
  accessFlags := 1537
  interfaces := #[]
  cf := some (fileOf pool2 1 #[] #[] 1537 3 #[] #[])
  fields := #[]
  methods := #[]
  instanceTypes := #[]
  staticTypes := #[]
  resolved := Array.replicate 11 none
  statics := none }

def pool3 : Array CpInfo := pool [(1, .class_ 2), (0, u "java/lang/Comparable"), (0, .class_ 4), (0, u "java/lang/Object")] 7

/-- java/lang/Comparable -/
def k3 : Class := { plain "java/lang/Comparable" (some 0) with
  accessFlags := 1537
  interfaces := #[]
  cf := some (fileOf pool3 1 #[] #[] 1537 3 #[] #[])
  fields := #[]
  methods := #[]
  instanceTypes := #[]
  staticTypes := #[]
  resolved := Array.replicate 12 none
  statics := none }

def pool4 : Array CpInfo := pool [(1, .class_ 2), (0, u "java/io/Serializable"), (0, .class_ 4), (0, u "java/lang/Object")] 2

/-- java/io/Serializable -/
def k4 : Class := { plain "java/io/Serializable" (some 0) with
  accessFlags := 1537
  interfaces := #[]
  cf := some (fileOf pool4 1 #[] #[] 1537 3 #[] #[])
  fields := #[]
  methods := #[]
  instanceTypes := #[]
  staticTypes := #[]
  resolved := Array.replicate 7 none
  statics := none }

def pool5 : Array CpInfo := pool [(2, .class_ 4), (1, u "java/lang/Enum"), (0, u "name"), (0, u "Ljava/lang/String;"), (2, u "ordinal"), (0, u "I"), (1, .class_ 14), (1, u "java/lang/Object"), (4, u "hash"), (86, .class_ 108), (1, u "java/lang/Enum$EnumDesc"), (2, .class_ 112), (0, u "java/lang/constant/Constable"), (0, .class_ 114), (0, u "java/lang/Comparable"), (0, .class_ 116), (0, u "java/io/Serializable")] 87

/-- java/lang/Enum -/
def k5 : Class := { plain "java/lang/Enum" (some 0) with
  accessFlags := 1057
  interfaces := #[2, 3, 4]
  cf := some (fileOf pool5 2 #[.nestMembers #[106]] #[] 1057 12 #[111, 113, 115] #[{ accessFlags := 18, nameIndex := 5, descriptorIndex := 6, attributes := #[] }, { accessFlags := 18, nameIndex := 9, descriptorIndex := 10, attributes := #[] }, { accessFlags := 2, nameIndex := 19, descriptorIndex := 10, attributes := #[] }])
  fields := #[{ name := "name", type := (.object "java/lang/String"), accessFlags := 18, slot := 0, constantValue := 0 }, { name := "ordinal", type := .int, accessFlags := 18, slot := 1, constantValue := 0 }, { name := "hash", type := .int, accessFlags := 2, slot := 2, constantValue := 0 }]
  methods := #[]
  instanceTypes := #[(.object "java/lang/String"), .int, .int]
  staticTypes := #[]
  resolved := Array.replicate 204 none
  statics := none }

def pool6 : Array CpInfo := pool [(1, .class_ 2), (0, u "com/example/covering/covering/PutCondition"), (2, u "ALWAYS"), (0, u "Lcom/example/covering/covering/PutCondition;"), (2, u "IF_ABSENT"), (2, u "IF_PRESENT"), (2, u "$VALUES"), (0, u "[Lcom/example/covering/covering/PutCondition;"), (6, .class_ 25), (1, u "java/lang/Enum"), (6, .fieldref 1 33), (0, .nameAndType 34 35), (0, u "makes"), (0, u "Z"), (0, .fieldref 1 37), (0, .nameAndType 38 35), (0, u "replaces"), (17, u "makesRecords"), (0, u "()Z"), (0, u "admits"), (0, u "(Z)Z")] 6

def k6c0 : Code := { maxStack := 1, maxLocals := 1, code := prog_2_method_4_code, exceptionTable := #[], attributes := #[] }
def k6m0 : Method := { name := "makesRecords", desc := "()Z", sig := { parameters := [], returnType := some .boolean }, accessFlags := 1, code := some k6c0 }
def k6c1 : Code := { maxStack := 1, maxLocals := 2, code := prog_2_method_5_code, exceptionTable := #[], attributes := #[] }
def k6m1 : Method := { name := "admits", desc := "(Z)Z", sig := { parameters := [.boolean], returnType := some .boolean }, accessFlags := 0, code := some k6c1 }
/-- com/example/covering/covering/PutCondition -/
def k6 : Class := { plain "com/example/covering/covering/PutCondition" (some 5) with
  accessFlags := 16433
  interfaces := #[]
  cf := some (fileOf pool6 1 #[] #[{ accessFlags := 1, nameIndex := 56, descriptorIndex := 57, attributes := #[] }, { accessFlags := 0, nameIndex := 58, descriptorIndex := 59, attributes := #[] }] 16433 23 #[] #[{ accessFlags := 16409, nameIndex := 5, descriptorIndex := 6, attributes := #[] }, { accessFlags := 16409, nameIndex := 9, descriptorIndex := 6, attributes := #[] }, { accessFlags := 16409, nameIndex := 12, descriptorIndex := 6, attributes := #[] }, { accessFlags := 18, nameIndex := 34, descriptorIndex := 35, attributes := #[] }, { accessFlags := 18, nameIndex := 38, descriptorIndex := 35, attributes := #[] }, { accessFlags := 4122, nameIndex := 15, descriptorIndex := 16, attributes := #[] }])
  fields := #[{ name := "ALWAYS", type := (.object "com/example/covering/covering/PutCondition"), accessFlags := 16409, slot := 0, constantValue := 0 }, { name := "IF_ABSENT", type := (.object "com/example/covering/covering/PutCondition"), accessFlags := 16409, slot := 1, constantValue := 0 }, { name := "IF_PRESENT", type := (.object "com/example/covering/covering/PutCondition"), accessFlags := 16409, slot := 2, constantValue := 0 }, { name := "makes", type := .boolean, accessFlags := 18, slot := 3, constantValue := 0 }, { name := "replaces", type := .boolean, accessFlags := 18, slot := 4, constantValue := 0 }, { name := "$VALUES", type := (.array (.object "com/example/covering/covering/PutCondition")), accessFlags := 4122, slot := 3, constantValue := 0 }]
  methods := #[k6m0, k6m1]
  instanceTypes := #[(.object "java/lang/String"), .int, .int, .boolean, .boolean]
  staticTypes := #[(.object "com/example/covering/covering/PutCondition"), (.object "com/example/covering/covering/PutCondition"), (.object "com/example/covering/covering/PutCondition"), (.array (.object "com/example/covering/covering/PutCondition"))]
  resolved := Array.replicate 66 none
  statics := some 0 }

def pool7 : Array CpInfo := pool [(1, u "java/lang/Cloneable"), (0, .class_ 1), (0, u "java/lang/Object"), (0, .class_ 3)] 3

/-- java/lang/Cloneable -/
def k7 : Class := { plain "java/lang/Cloneable" (some 0) with
  accessFlags := 1537
  interfaces := #[]
  cf := some (fileOf pool7 2 #[] #[] 1537 4 #[] #[])
  fields := #[]
  methods := #[]
  instanceTypes := #[]
  staticTypes := #[]
  resolved := Array.replicate 8 none
  statics := none }

/-- the primitive byte -/
def k8 : Class := { plain "byte" none with kind := .primitive 'B', accessFlags := 0x411 }
/-- [B -/
def k9 : Class := { plain "[B" (some 0) with kind := .array 8 .byte, interfaces := #[7, 4], accessFlags := 1041 }

/-- the primitive int -/
def k10 : Class := { plain "int" none with kind := .primitive 'I', accessFlags := 0x411 }
/-- [I -/
def k11 : Class := { plain "[I" (some 0) with kind := .array 10 .int, interfaces := #[7, 4], accessFlags := 1041 }

def heap : Heap := #[{ cls := 6, slots := #[.ref 1, .ref 2, .ref 3, .null], vm := .statics 6 },
  { cls := 6, slots := #[.null, .int 0, .int 0, .int 1, .int 1], vm := .none },
  { cls := 6, slots := #[.null, .int 1, .int 0, .int 1, .int 0], vm := .none },
  { cls := 6, slots := #[.null, .int 2, .int 0, .int 0, .int 1], vm := .none }]
def classes : Array Class := #[k0, k1, k2, k3, k4, k5, k6, k7, k8, k9, k10, k11]
def interned : List (Array UInt16 × Addr) := []
def slotsUsed : Nat := 19
def theMethod : MethodId := ⟨1, 1⟩
def args0 : Array Value := #[.int 5, .int 300]
def aboutOver (below : List Frame) : State where
  vm := { classes := classes, interned := interned.toArray }
  heap := heap
  slotsUsed := slotsUsed
  threads := #[{ frames := .invoking theMethod args0 :: below }]
def below0 : List Frame := [.native { method := ⟨0, 0⟩, args := #[] }]
def about1 : State := aboutOver below0
def p0 : Program := .bare "" "" ""
def e0 : Env := launch0.env 0 0 0
theorem w_frames : about1.frames = Frame.invoking theMethod args0 :: below0 := rfl
set_option maxRecDepth 65536 in
theorem w_args : argsFit about1.vm theMethod args0 = true := by decide +kernel
set_option maxRecDepth 65536 in
theorem w_heap : heapFits about1 = true := by decide +kernel
set_option maxRecDepth 65536 in
theorem w_runnable : about1.curStatus? = some .runnable := by decide +kernel
set_option maxRecDepth 65536 in
theorem w_alone : about1.alone = true := by decide +kernel
set_option maxRecDepth 65536 in
theorem w_named : about1.methodNamed? x = some theMethod := by decide +kernel
set_option maxRecDepth 65536 in
theorem w_hears : about1.hears theMethod below0 = true := by decide +kernel
set_option maxRecDepth 65536 in
theorem w_ripe : about1.ripe theMethod args0 below0 = true := by decide +kernel
theorem w_running : about1.status = .running := rfl
set_option maxRecDepth 65536 in
theorem w_room : about1.hasRoom e0.platform room_1 = true :=
  launch0.hasRoom_least _ room_1 (by decide +kernel) (by decide +kernel) (by decide +kernel) (by decide +kernel) (by decide +kernel) (by decide +kernel)
theorem allAtoms_all (ts : List Jvm.Cond) (a : Array Jvm.Value) (st : Jvm.State) : (allAtoms ts).before a st = ts.all (fun c => c.before a st) := by
  induction ts with
  | nil => rfl
  | cons c t ih =>
    show (Jvm.Cond.and c (allAtoms t)).before a st = _
    rw [Jvm.Cond.before_and, ih, List.all_cons]
def words1 : List Jvm.Cond := Jvm.Cond.code x code maxLocals ret :: tables_1
/-- a 'code' word, met by the world's own term for the bytes: nothing is compared byte by byte -/
theorem code_word {y : MethodName} {bytes : ByteArray} {mx : Nat} {rt : Option FieldType} {a : Array Value} {s : State} {m : MethodId} {meth : Method} {c : Code} (h1 : s.methodNamed? y = some m) (h2 : s.vm.method? m = some meth) (h3 : meth.code = some c) (h4 : c.code = bytes)
    (h5 : (c.maxLocals == mx && c.exceptionTable.isEmpty && decide (c.maxStack ≤ mostOperands) && decide (meth.sig.returnType = rt) && !meth.locks && decide (parseMethodDescriptor y.desc = some meth.sig)) = true) : (Jvm.Cond.code y bytes mx rt).before a s = true := by
  simp only [Bool.and_eq_true, beq_iff_eq, Bool.not_eq_true', decide_eq_true_eq] at h5
  obtain ⟨⟨⟨⟨⟨g1, g2⟩, g3⟩, g4⟩, g5⟩, g6⟩ := h5
  simp [Cond.before, Cond.holds, Cond.value, h1, h2, h3, h4, g1, g2, g3, g4, g5, g6]
def isCode : Jvm.Cond → Bool
  | .code _ _ _ _ => true
  | _ => false
theorem all_split {L : List Jvm.Cond} {P : Jvm.Cond → Bool} (h1 : L.all (fun c => isCode c || P c) = true) (h2 : ∀ c ∈ L.filter isCode, P c = true) : L.all P = true := by
  refine List.all_eq_true.mpr fun c hc => ?_
  have h := List.all_eq_true.mp h1 c hc
  rcases Bool.eq_false_or_eq_true (isCode c) with hi | hi
  · exact h2 c (List.mem_filter.mpr ⟨hc, hi⟩)
  · simpa [hi] using h
set_option maxRecDepth 65536 in
theorem w_c0 : (Jvm.Cond.code x code maxLocals ret).before args0 about1 = true := code_word (m := ⟨1, 1⟩) (meth := k1m1) (c := k1c1) (by decide +kernel) rfl rfl rfl (by decide +kernel)
set_option maxRecDepth 65536 in
theorem w_c1 : (Jvm.Cond.code ({ cls := "com/example/covering/covering/PutCondition", name := "admits", desc := "(Z)Z" } : Jvm.MethodName) prog_2_method_5_code (2 : Nat) (Option.some Jvm.ClassFile.FieldType.boolean)).before args0 about1 = true := code_word (m := ⟨6, 1⟩) (meth := k6m1) (c := k6c1) (by decide +kernel) rfl rfl rfl (by decide +kernel)
set_option maxRecDepth 65536 in
theorem w_c2 : (Jvm.Cond.code ({ cls := "com/example/covering/covering/PutCondition", name := "makesRecords", desc := "()Z" } : Jvm.MethodName) prog_2_method_4_code (1 : Nat) (Option.some Jvm.ClassFile.FieldType.boolean)).before args0 about1 = true := code_word (m := ⟨6, 0⟩) (meth := k6m0) (c := k6c0) (by decide +kernel) rfl rfl rfl (by decide +kernel)
def codes1 : List Jvm.Cond := [Jvm.Cond.code x code maxLocals ret, Jvm.Cond.code ({ cls := "com/example/covering/covering/PutCondition", name := "admits", desc := "(Z)Z" } : Jvm.MethodName) prog_2_method_5_code (2 : Nat) (Option.some Jvm.ClassFile.FieldType.boolean), Jvm.Cond.code ({ cls := "com/example/covering/covering/PutCondition", name := "makesRecords", desc := "()Z" } : Jvm.MethodName) prog_2_method_4_code (1 : Nat) (Option.some Jvm.ClassFile.FieldType.boolean)]
set_option maxRecDepth 65536 in
theorem codes_eq : words1.filter isCode = codes1 := rfl
theorem w_codes : ∀ c ∈ words1.filter isCode, c.before args0 about1 = true := by
  rw [codes_eq]
  intro c hc
  simp only [codes1, List.mem_cons, List.not_mem_nil, or_false] at hc
  rcases hc with rfl | rfl | rfl
  · exact w_c0
  · exact w_c1
  · exact w_c2
set_option maxRecDepth 65536 in
theorem w_t1 : words1.all (fun c => isCode c || c.before args0 about1) = true := by decide +kernel
theorem w_tables : (allAtoms (Jvm.Cond.code x code maxLocals ret :: tables_1)).before args0 about1 = true := by
  rw [allAtoms_all]
  show words1.all (fun c => c.before args0 about1) = true
  refine all_split ?_ w_codes
  rw [w_t1]
set_option maxRecDepth 65536 in
theorem w_case : (Jvm.Cond.and given_1 narrow_1).before args0 about1 = true := by decide +kernel
theorem w_applies : (headSpec (Jvm.Cond.code x code maxLocals ret :: tables_1) room_1).applies x e0.platform about1 = true :=
  (Spec.applies_iff w_frames).mpr ⟨w_running, w_runnable, w_alone, w_named, w_hears, w_ripe, w_room, w_tables⟩
theorem atStart : AtStart classFile x code maxLocals ret World_1 tables_1 room_1 Calls_1 rest_1 Pre_1 launch0 p0 e0 about1 theMethod args0 below0 :=
  ⟨lists_1, trivial, launch0.admits_env _ _ _, launch0.least_env, fairChoices_fair.cas, fairChoices_fair.clock, w_frames, w_args, w_heap, w_applies, trivial, trivial, w_case⟩
end start1
theorem witness_1 : WitnessClaimed_1 := ⟨start1.p0, start1.e0, start1.about1, start1.theMethod, start1.args0, start1.below0, start1.atStart⟩
end Jvm.Pilot.@@N@@

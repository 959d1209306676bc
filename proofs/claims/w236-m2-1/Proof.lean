import JvmDerived
import JvmDerived.Pilot.@@N@@Statement
import JvmDerived.Pilot.@@N@@Code
set_option linter.unusedVariables false
set_option linter.unusedSimpArgs false
namespace Jvm.Pilot.@@N@@
open Jvm Jvm.ClassFile Sem Op Lib Jvm.Free Jvm.Stand Jvm.LawKit Jvm.RoadKit Bundle Jvm.Pilot.@@N@@.Jvm.D
def own_Go (p : Program) (e : Env) (below : List Frame) (G : State → Outcome → Prop) (σ : State) : Prop := ∃ U o, Steps p.tables e below σ U ∧ U.status = .running ∧ Ended U below o ∧ G U o
theorem own_go {p : Program} {e : Env} {below : List Frame} {G : State → Outcome → Prop} {σ σ' : State} (h : ∀ t, Steps p.tables e below σ' t → Steps p.tables e below σ t) (k : own_Go p e below G σ') : own_Go p e below G σ := by
  obtain ⟨U, o, h1, h2⟩ := k
  exact ⟨U, o, h _ h1, h2⟩
def own_Post (s : State) (Q : Option Value → Heap → List Loc → Prop) (C S : Nat) (U : State) (o : Outcome) : Prop := ∃ v L, o = .returned v ∧ Q v U.heap L ∧ FrameEnd s o U L C S
section OwnSteps
variable {p : Program} {l : Launch} {e : Env} {R : Room} {s : State} {m : MethodId} {args : Array Value} {below : List Frame} {meth : Method} {c : Code} {T : State} {locs : List Loc} {cells slots : Nat} {G : State → Outcome → Prop} {Ls : Array Slot} {rest : List Value} {pc : Nat}
theorem own_iloadN (X : Stand p l e R s m args below meth c T locs cells slots) (hx : p.tables.exec = Jvm.exec) {i : Fin 4} {v : Int32} (hd : decode c.code pc = .ok (.iload_n i, 1)) (hl : Ls[i.val]? = some (.val (.int v))) (pc' : Nat) (hp : pc + 1 = pc') (k : own_Go p e below G (T.setTop (mkF m pc' Ls (.int v :: rest)))) : own_Go p e below G (T.setTop (mkF m pc Ls (rest))) := by
  subst hp; exact own_go (fun t q => XS.iloadN X.here hx rfl hd hl q) k
theorem own_iload (X : Stand p l e R s m args below meth c T locs cells slots) (hx : p.tables.exec = Jvm.exec) {i : Nat} {v : Int32} (hd : decode c.code pc = .ok (.iload i, 2)) (hl : Ls[i]? = some (.val (.int v))) (pc' : Nat) (hp : pc + 2 = pc') (k : own_Go p e below G (T.setTop (mkF m pc' Ls (.int v :: rest)))) : own_Go p e below G (T.setTop (mkF m pc Ls (rest))) := by
  subst hp; exact own_go (fun t q => XS.iload X.here hx rfl hd hl q) k
theorem own_aloadN (X : Stand p l e R s m args below meth c T locs cells slots) (hx : p.tables.exec = Jvm.exec) {i : Fin 4} {v : Value} (hd : decode c.code pc = .ok (.aload_n i, 1)) (hl : Ls[i.val]? = some (.val v)) (hv : v.isRef = true) (pc' : Nat) (hp : pc + 1 = pc') (k : own_Go p e below G (T.setTop (mkF m pc' Ls (v :: rest)))) : own_Go p e below G (T.setTop (mkF m pc Ls (rest))) := by
  subst hp; exact own_go (fun t q => XS.aloadN X.here hx rfl hd hl hv q) k
theorem own_aload (X : Stand p l e R s m args below meth c T locs cells slots) (hx : p.tables.exec = Jvm.exec) {i : Nat} {v : Value} (hd : decode c.code pc = .ok (.aload i, 2)) (hl : Ls[i]? = some (.val v)) (hv : v.isRef = true) (pc' : Nat) (hp : pc + 2 = pc') (k : own_Go p e below G (T.setTop (mkF m pc' Ls (v :: rest)))) : own_Go p e below G (T.setTop (mkF m pc Ls (rest))) := by
  subst hp; exact own_go (fun t q => XS.aload X.here hx rfl hd hl hv q) k
theorem own_istoreN (X : Stand p l e R s m args below meth c T locs cells slots) (hx : p.tables.exec = Jvm.exec) {i : Fin 4} {v : Int32} (hd : decode c.code pc = .ok (.istore_n i, 1)) (l' : Array Slot) (hl : storeLocals Ls i.val (.int v) = some l') (pc' : Nat) (hp : pc + 1 = pc') (k : own_Go p e below G (T.setTop (mkF m pc' l' (rest)))) : own_Go p e below G (T.setTop (mkF m pc Ls (.int v :: rest))) := by
  subst hp; exact own_go (fun t q => XS.istoreN X.here hx rfl hd rfl hl q) k
theorem own_istore (X : Stand p l e R s m args below meth c T locs cells slots) (hx : p.tables.exec = Jvm.exec) {i : Nat} {v : Int32} (hd : decode c.code pc = .ok (.istore i, 2)) (l' : Array Slot) (hl : storeLocals Ls i (.int v) = some l') (pc' : Nat) (hp : pc + 2 = pc') (k : own_Go p e below G (T.setTop (mkF m pc' l' (rest)))) : own_Go p e below G (T.setTop (mkF m pc Ls (.int v :: rest))) := by
  subst hp; exact own_go (fun t q => XS.istore X.here hx rfl hd rfl hl q) k
theorem own_astoreN (X : Stand p l e R s m args below meth c T locs cells slots) (hx : p.tables.exec = Jvm.exec) {i : Fin 4} {v : Value} (hd : decode c.code pc = .ok (.astore_n i, 1)) (hv : v.isRef = true) (l' : Array Slot) (hl : storeLocals Ls i.val v = some l') (pc' : Nat) (hp : pc + 1 = pc') (k : own_Go p e below G (T.setTop (mkF m pc' l' (rest)))) : own_Go p e below G (T.setTop (mkF m pc Ls (v :: rest))) := by
  subst hp; exact own_go (fun t q => XS.astoreN X.here hx rfl hd rfl hv hl q) k
theorem own_astore (X : Stand p l e R s m args below meth c T locs cells slots) (hx : p.tables.exec = Jvm.exec) {i : Nat} {v : Value} (hd : decode c.code pc = .ok (.astore i, 2)) (hv : v.isRef = true) (l' : Array Slot) (hl : storeLocals Ls i v = some l') (pc' : Nat) (hp : pc + 2 = pc') (k : own_Go p e below G (T.setTop (mkF m pc' l' (rest)))) : own_Go p e below G (T.setTop (mkF m pc Ls (v :: rest))) := by
  subst hp; exact own_go (fun t q => XS.astore X.here hx rfl hd rfl hv hl q) k
theorem own_iconst (X : Stand p l e R s m args below meth c T locs cells slots) (hx : p.tables.exec = Jvm.exec) {i : Int} (hd : decode c.code pc = .ok (.iconst i, 1)) (v : Int32) (hv : v = Int32.ofInt i) (pc' : Nat) (hp : pc + 1 = pc') (k : own_Go p e below G (T.setTop (mkF m pc' Ls (.int v :: rest)))) : own_Go p e below G (T.setTop (mkF m pc Ls (rest))) := by
  subst hp; exact own_go (fun t q => XS.iconst X.here hx rfl hd (hv ▸ q)) k
theorem own_ldcInt (X : Stand p l e R s m args below meth c T locs cells slots) (hx : p.tables.exec = Jvm.exec) {own : String} {index : Nat} {v : Int32} (hown : s.vm.findClass own = some m.cls) (hc : (Cond.constant own index v).before args s = true) (hd : decode c.code pc = .ok (.ldc index, 2)) (pc' : Nat) (hp : pc + 2 = pc') (k : own_Go p e below G (T.setTop (mkF m pc' Ls (.int v :: rest)))) : own_Go p e below G (T.setTop (mkF m pc Ls rest)) := by
  subst hp; exact own_go (X.ldcInt hx hown hc (g := mkF m pc Ls rest) rfl hd) k
theorem own_iand (X : Stand p l e R s m args below meth c T locs cells slots) (hx : p.tables.exec = Jvm.exec) {x y : Int32} (hd : decode c.code pc = .ok (.iand, 1)) (pc' : Nat) (hp : pc + 1 = pc') (k : own_Go p e below G (T.setTop (mkF m pc' Ls (.int (x &&& y) :: rest)))) : own_Go p e below G (T.setTop (mkF m pc Ls (.int y :: .int x :: rest))) := by
  subst hp; exact own_go (fun t q => XS.iand X.here hx rfl hd rfl q) k
theorem own_irem (X : Stand p l e R s m args below meth c T locs cells slots) (hx : p.tables.exec = Jvm.exec) {x y : Int32} (hd : decode c.code pc = .ok (.irem, 1)) (hy : y ≠ 0) (pc' : Nat) (hp : pc + 1 = pc') (k : own_Go p e below G (T.setTop (mkF m pc' Ls (.int (x % y) :: rest)))) : own_Go p e below G (T.setTop (mkF m pc Ls (.int y :: .int x :: rest))) := by
  subst hp; exact own_go (fun t q => iremM X hx rfl hd rfl hy q) k
theorem own_goto (X : Stand p l e R s m args below meth c T locs cells slots) (hx : p.tables.exec = Jvm.exec) {o : Int} (hd : decode c.code pc = .ok (.goto o, 3)) (pc' : Nat) (hp : 0 ≤ (pc : Int) + o ∧ ((pc : Int) + o).toNat = pc') (k : own_Go p e below G (T.setTop (mkF m pc' Ls rest))) : own_Go p e below G (T.setTop (mkF m pc Ls rest)) :=
  own_go (fun t q => XS.goto X.here hx rfl (pc0 := pc) (pc' := pc') rfl hd hp.1 hp.2 q) k
theorem own_ifY (X : Stand p l e R s m args below meth c T locs cells slots) (hx : p.tables.exec = Jvm.exec) {o : Int} {cd : ClassFile.Cond} {x : Int32} (hd : decode c.code pc = .ok (.ifCond cd o, 3)) (hc : ifCond.holds cd x = true) (pc' : Nat) (hp : 0 ≤ (pc : Int) + o ∧ ((pc : Int) + o).toNat = pc') (k : own_Go p e below G (T.setTop (mkF m pc' Ls rest))) : own_Go p e below G (T.setTop (mkF m pc Ls (.int x :: rest))) :=
  own_go (fun t q => XS.ifYes X.here hx rfl (pc0 := pc) (pc' := pc') rfl hd rfl hc hp.1 hp.2 q) k
theorem own_ifN (X : Stand p l e R s m args below meth c T locs cells slots) (hx : p.tables.exec = Jvm.exec) {o : Int} {cd : ClassFile.Cond} {x : Int32} (hd : decode c.code pc = .ok (.ifCond cd o, 3)) (hc : ifCond.holds cd x = false) (pc' : Nat) (hp : pc + 3 = pc') (k : own_Go p e below G (T.setTop (mkF m pc' Ls (rest)))) : own_Go p e below G (T.setTop (mkF m pc Ls (.int x :: rest))) := by
  subst hp; exact own_go (fun t q => XS.ifNo X.here hx rfl hd rfl hc q) k
theorem own_icmpY (X : Stand p l e R s m args below meth c T locs cells slots) (hx : p.tables.exec = Jvm.exec) {o : Int} {cd : ClassFile.Cond} {x y : Int32} (hd : decode c.code pc = .ok (.if_icmp cd o, 3)) (hc : if_icmp.holds cd x y = true) (pc' : Nat) (hp : 0 ≤ (pc : Int) + o ∧ ((pc : Int) + o).toNat = pc') (k : own_Go p e below G (T.setTop (mkF m pc' Ls rest))) : own_Go p e below G (T.setTop (mkF m pc Ls (.int y :: .int x :: rest))) :=
  own_go (fun t q => XS.icmpYes X.here hx rfl (pc0 := pc) (pc' := pc') rfl hd rfl hc hp.1 hp.2 q) k
theorem own_icmpN (X : Stand p l e R s m args below meth c T locs cells slots) (hx : p.tables.exec = Jvm.exec) {o : Int} {cd : ClassFile.Cond} {x y : Int32} (hd : decode c.code pc = .ok (.if_icmp cd o, 3)) (hc : if_icmp.holds cd x y = false) (pc' : Nat) (hp : pc + 3 = pc') (k : own_Go p e below G (T.setTop (mkF m pc' Ls (rest)))) : own_Go p e below G (T.setTop (mkF m pc Ls (.int y :: .int x :: rest))) := by
  subst hp; exact own_go (fun t q => XS.icmpNo X.here hx rfl hd rfl hc q) k
theorem own_acmpY (X : Stand p l e R s m args below meth c T locs cells slots) (hx : p.tables.exec = Jvm.exec) {o : Int} {cd : ClassFile.ACond} {x y : Value} (hd : decode c.code pc = .ok (.if_acmp cd o, 3)) (h1 : x.isRef = true) (h2 : y.isRef = true) (b : Bool) (hb : decide (x = y) = b) (pc' : Nat) (ho : 0 ≤ (pc : Int) + o) (hp : pc' = if acV cd b = true then ((pc : Int) + o).toNat else pc + 3) (k : own_Go p e below G (T.setTop (mkF m pc' Ls rest))) : own_Go p e below G (T.setTop (mkF m pc Ls (y :: x :: rest))) :=
  own_go (fun t q => Jvm.RoadKit.acmp (g := mkF m pc Ls (y :: x :: rest)) X hx rfl h1 h2 rfl hd rfl hb ho hp q) k
theorem own_ret {f : JFrame} {Q : Option Value → Heap → List Loc → Prop} {C S : Nat} (X : Stand p l e R s m args below meth c T locs cells slots) (hlk : meth.locks = false) (hG : own_Post s Q C S = G) {v : Option Value} (hv : meth.sig.returnType = none → v = none)
    (st : ∀ fs, (∀ (f : JFrame) (acts : List Action), f.method = m → f.locked = none → f.entered = [] → (doReturn e (T.setTop f) acts v).1 = T.setFrames fs) → Steps p.tables e below (T.setTop f) (T.setFrames fs)) (hc : cells ≤ C) (hs : slots ≤ S) (hq : Q v T.heap locs) : own_Go p e below G (T.setTop f) := by
  subst hG
  obtain ⟨fs, hr, hrun, hended, hW, hsame⟩ := X.leave (v := v) hv hlk
  exact ⟨_, _, st fs hr, hrun, hended, _, _, rfl, hq, ⟨_, rfl⟩, hW, hsame.mono hc hs⟩
theorem own_ireturn {z : Int32} {Q : Option Value → Heap → List Loc → Prop} {C S : Nat} (X : Stand p l e R s m args below meth c T locs cells slots) (hx : p.tables.exec = Jvm.exec) (hlk : meth.locks = false) (hG : own_Post s Q C S = G) (hret : meth.sig.returnType = some .int) (hd : decode c.code pc = .ok (.ireturn, 1)) (hc : cells ≤ C) (hs : slots ≤ S) (hq : Q (some (.int z)) T.heap locs) : own_Go p e below G (T.setTop (mkF m pc Ls (.int z :: rest))) :=
  own_ret X hlk hG (fun h => by rw [hret] at h; cases h) (fun fs hr => retOut X hx hret rfl (Or.inl ⟨rfl, Or.inl rfl, _, rfl⟩) hd hr) hc hs hq
theorem own_nreturn {z : Int32} {ty : FieldType} {Q : Option Value → Heap → List Loc → Prop} {C S : Nat} (X : Stand p l e R s m args below meth c T locs cells slots) (hx : p.tables.exec = Jvm.exec) (hlk : meth.locks = false) (hG : own_Post s Q C S = G) (hret : meth.sig.returnType = some ty) (ht : ty = .boolean ∨ ty = .byte ∨ ty = .char ∨ ty = .short) (hd : decode c.code pc = .ok (.ireturn, 1)) (hc : cells ≤ C) (hs : slots ≤ S) (hq : Q (some (.int (nar ty z))) T.heap locs) : own_Go p e below G (T.setTop (mkF m pc Ls (.int z :: rest))) :=
  own_ret X hlk hG (fun h => by rw [hret] at h; cases h) (fun fs hr => retN X hx hret ht hd hr) hc hs hq
theorem own_areturn {w : Value} {ty : FieldType} {Q : Option Value → Heap → List Loc → Prop} {C S : Nat} (X : Stand p l e R s m args below meth c T locs cells slots) (hx : p.tables.exec = Jvm.exec) (hlk : meth.locks = false) (hG : own_Post s Q C S = G) (hret : meth.sig.returnType = some ty) (ht : ty.isReference = true) (hn : narrow ty w = w) (hw : w.isRef = true) (hd : decode c.code pc = .ok (.areturn, 1)) (hc : cells ≤ C) (hs : slots ≤ S) (hq : Q (some w) T.heap locs) : own_Go p e below G (T.setTop (mkF m pc Ls (w :: rest))) :=
  own_ret X hlk hG (fun h => by rw [hret] at h; cases h) (fun fs hr => retOut X hx hret hn (Or.inr (Or.inr (Or.inr (Or.inr ⟨rfl, ht, hw⟩)))) hd hr) hc hs hq
variable {Z : State} {a0 : Array Value} {h : Heap}
theorem own_getS (X : Stand p l e R s m args below meth c T locs cells slots) (hx : p.tables.exec = Jvm.exec) (hZ : Z.Warmed39 s.vm) {own R0 O n d : String} {index : Nat} (hown : s.vm.findClass own = some m.cls) (w : (Cond.fieldLink own index R0 n d).before a0 Z = true) (via : Via Z R0 O n d) (eT : T.heap = h) {v : Value} (F : Sta Z h O n d v) (hd : decode c.code pc = .ok (.getstatic index, 3)) (pc' : Nat) (hp : pc + 3 = pc')
    (k : ∀ T' : State, Stand p l e R s m args below meth c T' locs cells slots → T'.heap = h → own_Go p e below G (T'.setTop (mkF m pc' Ls (v :: rest)))) : own_Go p e below G (T.setTop (mkF m pc Ls rest)) := by
  subst hp
  obtain ⟨T', X', e', st⟩ := getS2 X hx hZ hown (host := "") (Or.inl w) via eT F (g := mkF m pc Ls rest) rfl hd
  exact own_go st (k T' X' e')
theorem own_callS {bytes : ByteArray} {maxL : Nat} {ret : Option FieldType} {rm : Room} {y : MethodName} {argsL : List Value} {Q : Option Value → Heap → List Loc → Prop} (X : Stand p l e R s m args below meth c T locs cells slots) (hx : p.tables.exec = Jvm.exec) (hZ : Z.Warmed39 s.vm) {own : String} {index : Nat} (hown : s.vm.findClass own = some m.cls) (w1 : (Cond.methodLink own index y).before a0 Z = true) (w2 : (Cond.static y).before a0 Z = true) (w3 : (Cond.initialized y.cls).before a0 Z = true) (w4 : (Cond.code y bytes maxL ret).before a0 Z = true) (hy : y.cls ≠ "java/lang/invoke/MethodHandle" ∧ y.cls ≠ "java/lang/invoke/VarHandle") (eT : T.heap = h)
    (hM : MetFree l y (head1 [Cond.code y bytes maxL ret] rm) (fun a U => a = argsL.toArray ∧ Z.Warmed39 U.vm ∧ U.heap = h) (fun _ _ _ _ _ => True) (fun _ U o U' => ∃ v L, o = .returned v ∧ Q v U'.heap L ∧ FrameEnd U o U' L rm.cells rm.slots))
    (hsize : Ls.size = c.maxLocals) {ps : List FieldType} {rt : Option FieldType} (hdesc : parseMethodDescriptor y.desc = some ⟨ps, rt⟩) (hlen : argsL.length = ps.length) {st : List Value} (hst : st = argsL.reverse ++ rest) (hd : decode c.code pc = .ok (.invokestatic index, 3)) (W : Nat) (hW : (rest.map fun v => v.category).sum ≤ W) (hf : rm.frames + 1 ≤ R.frames) (hl : W + (maxL + 11) + rm.locals ≤ R.locals) (hc : cells + rm.cells ≤ R.cells) (hs : slots + rm.slots ≤ R.slots) (pc' : Nat) (hp : pc + 3 = pc')
    (k : ∀ (T' : State) (L : List Loc) (v : Option Value), Stand p l e R s m args below meth c T' (locs ++ L) (cells + rm.cells) (slots + rm.slots) → Q v T'.heap L → own_Go p e below G (T'.setTop (mkF m pc' Ls (v.toList ++ rest)))) : own_Go p e below G (T.setTop (mkF m pc Ls st)) := by
  subst hp hst
  obtain ⟨v, _, ⟨T', L', k', n'⟩, -, X', ⟨Lc, hQ, l', y', z'⟩, st⟩ := Jvm.LawKit.callS X hx hown (mvT hZ w1) (mvT hZ w2) (mvT hZ w3) (mvT hZ w4) hy (backOf (W := W) hM hZ w4 w3 hf hl) (g := mkF m pc Ls (argsL.reverse ++ rest)) rfl hsize (argsL := argsL) (rest := rest) (lenOf hdesc hlen) rfl (by show 2 * 0 + _ ≤ W; rw [Nat.mul_zero, Nat.zero_add]; exact hW) hd (fun _ _ => ⟨rfl, eT, hc, hs⟩)
  dsimp only [Pt.U, Pt.locs, Pt.cells, Pt.slots] at X' l' y' z' st hQ
  subst l' y' z'
  exact own_go st (k T' Lc v X' hQ)
theorem own_callV {bytes : ByteArray} {maxL : Nat} {ret : Option FieldType} {rm : Room} {y z : MethodName} {argsL : List Value} {Q : Option Value → Heap → List Loc → Prop} (X : Stand p l e R s m args below meth c T locs cells slots) (hx : p.tables.exec = Jvm.exec) (hZ : Z.Warmed39 s.vm) {own C : String} {index : Nat} (hown : s.vm.findClass own = some m.cls) (w1 : (Cond.methodLink own index y).before a0 Z = true) (w2 : (Cond.declares y).before a0 Z = true) (w5 : (Cond.selects C y z).before a0 Z = true) (nf : NotFace s y) (w6 : (Cond.instanceMethod z).before a0 Z = true) (w3 : (Cond.initialized z.cls).before a0 Z = true) (w4 : (Cond.code z bytes maxL ret).before a0 Z = true) (hy : y.cls ≠ "java/lang/invoke/MethodHandle" ∧ y.cls ≠ "java/lang/invoke/VarHandle") (eT : T.heap = h) {b : Addr} (E : Exa Z h b C)
    (hM : MetFree l z (head1 [Cond.code z bytes maxL ret] rm) (fun a U => a = (.ref b :: argsL).toArray ∧ Z.Warmed39 U.vm ∧ U.heap = h) (fun _ _ _ _ _ => True) (fun _ U o U' => ∃ v L, o = .returned v ∧ Q v U'.heap L ∧ FrameEnd U o U' L rm.cells rm.slots))
    (hsize : Ls.size = c.maxLocals) {ps : List FieldType} {rt : Option FieldType} (hdesc : parseMethodDescriptor y.desc = some ⟨ps, rt⟩) (hlen : argsL.length = ps.length) {st : List Value} (hst : st = argsL.reverse ++ .ref b :: rest) (hd : decode c.code pc = .ok (.invokevirtual index, 3)) (W : Nat) (hW : (rest.map fun v => v.category).sum ≤ W) (hf : rm.frames + 1 ≤ R.frames) (hl : W + (maxL + 11) + rm.locals ≤ R.locals) (hc : cells + rm.cells ≤ R.cells) (hs : slots + rm.slots ≤ R.slots) (pc' : Nat) (hp : pc + 3 = pc')
    (k : ∀ (T' : State) (L : List Loc) (v : Option Value), Stand p l e R s m args below meth c T' (locs ++ L) (cells + rm.cells) (slots + rm.slots) → Q v T'.heap L → own_Go p e below G (T'.setTop (mkF m pc' Ls (v.toList ++ rest)))) : own_Go p e below G (T.setTop (mkF m pc Ls st)) := by
  subst hp hst
  obtain ⟨cq, kq, qa, qb, qc⟩ := isOf hZ eT E
  obtain ⟨v, _, ⟨T', L', k', n'⟩, -, X', ⟨Lc, hQ, l', y', z'⟩, st⟩ := X.virtualBack hx (y := y) (z := z) hown (mvT hZ w1) (mvT hZ w2) nf (mvT hZ w5) (mvT hZ w6) hy (backOf (W := W) hM hZ w4 w3 hf hl) qa qc (g := mkF m pc Ls (argsL.reverse ++ .ref b :: rest)) rfl hsize (Steps.refl _) (argsL := argsL) (rest := rest) (lenOf hdesc hlen) rfl (by show 2 * 0 + _ ≤ W; rw [Nat.mul_zero, Nat.zero_add]; exact hW) hd (fun _ _ => ⟨rfl, eT, hc, hs⟩)
  dsimp only [Pt.U, Pt.locs, Pt.cells, Pt.slots] at X' l' y' z' st hQ
  subst l' y' z'
  exact own_go (fun t q => st.trans q) (k T' Lc v X' hQ)
def own_A {α : Type} (ty : FieldType) (f : α → Value) (Z : State) (h : Heap) (a : Addr) (L : List α) : Prop := ∃ cl : Cell, Arr Z h a cl ty ∧ cl.slots = (L.map f).toArray ∧ L.length < 2147483648
section OwnArr
variable {α : Type} {ty : FieldType} {f : α → Value} {h' : Heap} {a b : Addr} {L : List α}
theorem own_A.lt (F : own_A ty f Z h a L) : a < h.size := by obtain ⟨cl, A, -⟩ := F; exact A.lt
theorem own_A.ext (F : own_A ty f Z h a L) (E : Ext h h') : own_A ty f Z h' a L := by obtain ⟨cl, A, r⟩ := F; exact ⟨cl, A.ext E, r⟩
theorem own_A.other {sl : Nat} {v : Value} (F : own_A ty f Z h b L) (W : Wr h h' a sl v) (q : b ≠ a) : own_A ty f Z h' b L := by obtain ⟨cl, A, r⟩ := F; exact ⟨cl, A.other W q, r⟩
theorem own_A.keep {ws : List Addr} (F : own_A ty f Z h a L) (K : Keep h h' ws) (q : a ∉ ws) : own_A ty f Z h' a L := by obtain ⟨cl, A, r⟩ := F; exact ⟨cl, ⟨K.2.1 a cl A.1 q, A.2⟩, r⟩
theorem own_A.len (F : own_A ty f Z h a L) : L.length < 2147483648 := by obtain ⟨cl, A, -, r⟩ := F; exact r
theorem own_A.set {i : Nat} {x : α} (F : own_A ty f Z h a L) (W : Wr h h' a i (f x)) : own_A ty f Z h' a (L.set i x) := by
  obtain ⟨cl, A, r, r'⟩ := F
  refine ⟨_, A.same W, ?_, by simpa using r'⟩
  show cl.slots.setIfInBounds i (f x) = _
  rw [r, List.map_set]; simp
theorem own_idx {j : Int32} {i n : Nat} (hj : j = Int32.ofNat i) (hi : i < n) (hn : n < 2147483648) : ¬ (j < 0 ∨ n ≤ j.toNatClampNeg) ∧ j.toNatClampNeg = i := by
  subst hj
  have q : (Int32.ofNat i).toInt = i := Int32.toInt_ofNat_of_lt (by omega)
  have q2 : (Int32.ofNat i).toNatClampNeg = i := by rw [Int32.toNatClampNeg, q]; rfl
  refine ⟨fun z => z.elim (fun z => ?_) fun z => by omega, q2⟩
  rw [Int32.lt_iff_toInt_lt, q, show (0 : Int32).toInt = 0 from rfl] at z; omega
theorem own_A.new {k : ClassId} {n : Int32} {d : α} (hd : f d = defaultValue ty) (A : Arr Z h a (newA k ty n) ty) (i : Nat) (hn : n = Int32.ofNat i) (hi : i < 2147483648) : own_A ty f Z h a (List.replicate i d) := by
  refine ⟨_, A, ?_, by simpa using hi⟩
  have q := (own_idx hn (Nat.lt_succ_self i) (n := i + 1))
  have q2 : n.toNatClampNeg = i := by
    subst hn
    rw [Int32.toNatClampNeg, Int32.toInt_ofNat_of_lt (by omega)]; rfl
  simp [newA, q2, hd]
end OwnArr
end OwnSteps
theorem own_w {Z : State} {a0 : Array Value} (hw : ∀ d ∈ tables_1, d.before a0 Z = true) (i : Nat) {d : Cond} (h : tables_1[i]? = some d) : d.before a0 Z = true := hw d (List.mem_of_getElem? h)
theorem own_isl {args : Array Value} {first s : State} {o : Option Outcome} {idx : List Nat} {t : Term} (h : (Cond.isLong t).value args first o s idx = some true) : ∃ x, t.eval args first o idx s = some (.long x) := isL_v h
theorem d1_0 : decode method_2_code 0 = .ok (.iload_n 0, 1) := by decide +kernel
theorem d1_1 : decode method_2_code 1 = .ok (.ldc 7, 2) := by decide +kernel
theorem d1_3 : decode method_2_code 3 = .ok (.iand, 1) := by decide +kernel
theorem d1_4 : decode method_2_code 4 = .ok (.iconst 3, 1) := by decide +kernel
theorem d1_5 : decode method_2_code 5 = .ok (.irem, 1) := by decide +kernel
theorem d1_6 : decode method_2_code 6 = .ok (.istore_n 1, 1) := by decide +kernel
theorem d1_7 : decode method_2_code 7 = .ok (.iload_n 1, 1) := by decide +kernel
theorem d1_8 : decode method_2_code 8 = .ok (.ifCond .ne 7, 3) := by decide +kernel
theorem d1_11 : decode method_2_code 11 = .ok (.getstatic 8, 3) := by decide +kernel
theorem d1_14 : decode method_2_code 14 = .ok (.areturn, 1) := by decide +kernel
theorem d1_15 : decode method_2_code 15 = .ok (.iload_n 1, 1) := by decide +kernel
theorem d1_16 : decode method_2_code 16 = .ok (.iconst 1, 1) := by decide +kernel
theorem d1_17 : decode method_2_code 17 = .ok (.if_icmp .ne 7, 3) := by decide +kernel
theorem d1_20 : decode method_2_code 20 = .ok (.getstatic 14, 3) := by decide +kernel
theorem d1_23 : decode method_2_code 23 = .ok (.areturn, 1) := by decide +kernel
theorem d1_24 : decode method_2_code 24 = .ok (.getstatic 17, 3) := by decide +kernel
theorem d1_27 : decode method_2_code 27 = .ok (.areturn, 1) := by decide +kernel
theorem d2_0 : decode prog_53_method_5_code 0 = .ok (.aload_n 0, 1) := by decide +kernel
theorem d2_1 : decode prog_53_method_5_code 1 = .ok (.getstatic 7, 3) := by decide +kernel
theorem d2_4 : decode prog_53_method_5_code 4 = .ok (.if_acmp .eq 10, 3) := by decide +kernel
theorem d2_7 : decode prog_53_method_5_code 7 = .ok (.aload_n 1, 1) := by decide +kernel
theorem d2_8 : decode prog_53_method_5_code 8 = .ok (.getstatic 7, 3) := by decide +kernel
theorem d2_11 : decode prog_53_method_5_code 11 = .ok (.if_acmp .ne 7, 3) := by decide +kernel
theorem d2_14 : decode prog_53_method_5_code 14 = .ok (.getstatic 7, 3) := by decide +kernel
theorem d2_17 : decode prog_53_method_5_code 17 = .ok (.areturn, 1) := by decide +kernel
theorem d2_18 : decode prog_53_method_5_code 18 = .ok (.aload_n 0, 1) := by decide +kernel
theorem d2_19 : decode prog_53_method_5_code 19 = .ok (.getstatic 3, 3) := by decide +kernel
theorem d2_22 : decode prog_53_method_5_code 22 = .ok (.if_acmp .ne 16, 3) := by decide +kernel
theorem d2_25 : decode prog_53_method_5_code 25 = .ok (.aload_n 1, 1) := by decide +kernel
theorem d2_26 : decode prog_53_method_5_code 26 = .ok (.getstatic 3, 3) := by decide +kernel
theorem d2_29 : decode prog_53_method_5_code 29 = .ok (.if_acmp .ne 9, 3) := by decide +kernel
theorem d2_32 : decode prog_53_method_5_code 32 = .ok (.getstatic 3, 3) := by decide +kernel
theorem d2_35 : decode prog_53_method_5_code 35 = .ok (.goto 6, 3) := by decide +kernel
theorem d2_38 : decode prog_53_method_5_code 38 = .ok (.getstatic 10, 3) := by decide +kernel
theorem d2_41 : decode prog_53_method_5_code 41 = .ok (.areturn, 1) := by decide +kernel
theorem d3_0 : decode method_3_code 0 = .ok (.aload_n 0, 1) := by decide +kernel
theorem d3_1 : decode method_3_code 1 = .ok (.getstatic 14, 3) := by decide +kernel
theorem d3_4 : decode method_3_code 4 = .ok (.if_acmp .ne 5, 3) := by decide +kernel
theorem d3_7 : decode method_3_code 7 = .ok (.iconst 0, 1) := by decide +kernel
theorem d3_8 : decode method_3_code 8 = .ok (.ireturn, 1) := by decide +kernel
theorem d3_9 : decode method_3_code 9 = .ok (.aload_n 0, 1) := by decide +kernel
theorem d3_10 : decode method_3_code 10 = .ok (.getstatic 17, 3) := by decide +kernel
theorem d3_13 : decode method_3_code 13 = .ok (.if_acmp .ne 5, 3) := by decide +kernel
theorem d3_16 : decode method_3_code 16 = .ok (.iconst 1, 1) := by decide +kernel
theorem d3_17 : decode method_3_code 17 = .ok (.ireturn, 1) := by decide +kernel
theorem d3_18 : decode method_3_code 18 = .ok (.aload_n 0, 1) := by decide +kernel
theorem d3_19 : decode method_3_code 19 = .ok (.getstatic 8, 3) := by decide +kernel
theorem d3_22 : decode method_3_code 22 = .ok (.if_acmp .ne 5, 3) := by decide +kernel
theorem d3_25 : decode method_3_code 25 = .ok (.iconst 2, 1) := by decide +kernel
theorem d3_26 : decode method_3_code 26 = .ok (.ireturn, 1) := by decide +kernel
theorem d3_27 : decode method_3_code 27 = .ok (.iconst (-1), 1) := by decide +kernel
theorem d3_28 : decode method_3_code 28 = .ok (.ireturn, 1) := by decide +kernel
theorem d4_0 : decode jdk_29_method_69_code 0 = .ok (.iload_n 0, 1) := by decide +kernel
theorem d4_1 : decode jdk_29_method_69_code 1 = .ok (.iload_n 1, 1) := by decide +kernel
theorem d4_2 : decode jdk_29_method_69_code 2 = .ok (.if_icmp .gt 7, 3) := by decide +kernel
theorem d4_5 : decode jdk_29_method_69_code 5 = .ok (.iload_n 0, 1) := by decide +kernel
theorem d4_6 : decode jdk_29_method_69_code 6 = .ok (.goto 4, 3) := by decide +kernel
theorem d4_9 : decode jdk_29_method_69_code 9 = .ok (.iload_n 1, 1) := by decide +kernel
theorem d4_10 : decode jdk_29_method_69_code 10 = .ok (.ireturn, 1) := by decide +kernel
abbrev own_y1 : MethodName := ⟨"com/example/mapweft/mapweft/select/TruthAndPinLaw", "pick", "(I)Lcom/example/mapweft/mapweft/select/Truth;"⟩
abbrev own_y2 : MethodName := ⟨"com/example/mapweft/mapweft/select/Truth", "and", "(Lcom/example/mapweft/mapweft/select/Truth;)Lcom/example/mapweft/mapweft/select/Truth;"⟩
abbrev own_y3 : MethodName := ⟨"com/example/mapweft/mapweft/select/TruthAndPinLaw", "rank", "(Lcom/example/mapweft/mapweft/select/Truth;)I"⟩
abbrev own_y4 : MethodName := ⟨"java/lang/Math", "min", "(II)I"⟩
theorem pf_1 : plainFor own_y1 = true := by decide +kernel
theorem pf_2 : plainFor own_y2 = true := by decide +kernel
theorem pf_3 : plainFor own_y3 = true := by decide +kernel
theorem pf_4 : plainFor own_y4 = true := by decide +kernel
theorem pn_0 : plainName "com/example/mapweft/mapweft/select/TruthAndPinLaw" = true := by first | (simp [plainName, overriddenIn]; done) | decide +kernel
theorem pd_0 : parseMethodDescriptor "(I)Lcom/example/mapweft/mapweft/select/Truth;" = some ⟨[.int], some (.object "com/example/mapweft/mapweft/select/Truth")⟩ := by decide +kernel
theorem pd_1 : parseMethodDescriptor "(Lcom/example/mapweft/mapweft/select/Truth;)Lcom/example/mapweft/mapweft/select/Truth;" = some ⟨[(.object "com/example/mapweft/mapweft/select/Truth")], some (.object "com/example/mapweft/mapweft/select/Truth")⟩ := by decide +kernel
theorem pd_2 : parseMethodDescriptor "(Lcom/example/mapweft/mapweft/select/Truth;)I" = some ⟨[(.object "com/example/mapweft/mapweft/select/Truth")], some .int⟩ := by decide +kernel
theorem pd_3 : parseMethodDescriptor "(II)I" = some ⟨[.int, .int], some .int⟩ := by decide +kernel
def own_pick (tA fA iA : Addr) (k : Int32) : Addr := if k = 0 then tA else if k = 1 then fA else iA
def own_and (tA fA iA x y : Addr) : Addr := if x = fA then fA else if y = fA then fA else if x = tA then (if y = tA then tA else iA) else iA
def own_rank (tA fA iA x : Addr) : Int32 := if x = fA then 0 else if x = iA then 1 else if x = tA then 2 else -1
def own_min (a b : Int32) : Int32 := if b < a then b else a
theorem own_three (tA fA iA : Addr) (k : Int32) : own_pick tA fA iA k = tA ∨ own_pick tA fA iA k = fA ∨ own_pick tA fA iA k = iA := by unfold own_pick; split <;> (try split) <;> simp
theorem own_law {tA fA iA x y : Addr} (h1 : tA ≠ fA) (h2 : tA ≠ iA) (h3 : fA ≠ iA) (hx : x = tA ∨ x = fA ∨ x = iA) (hy : y = tA ∨ y = fA ∨ y = iA) : own_rank tA fA iA (own_and tA fA iA x y) = own_min (own_rank tA fA iA x) (own_rank tA fA iA y) := by
  have h1' := h1.symm
  have h2' := h2.symm
  have h3' := h3.symm
  rcases hx with rfl | rfl | rfl <;> rcases hy with rfl | rfl | rfl <;> simp [own_rank, own_and, own_min, *] <;> decide
theorem own_fld {s : State} {args : Array Value} {t u : Term} {C n d : String} {x y : Addr} {i j : Int32} (ht : t.eval args s none [] s = some (.ref x)) (hu : u.eval args s none [] s = some (.ref y)) (h1 : (Cond.eq (.field t C n d) (.int i)).value args s none s [] = some true) (h2 : (Cond.eq (.field u C n d) (.int j)).value args s none s [] = some true) (hn : i ≠ j) : x ≠ y := fun q => by
  subst q
  have a1 := eqv_i rfl h1
  have a2 := eqv_i rfl h2
  rw [fld_at ht] at a1
  rw [fld_at hu, a1] at a2
  exact hn (Value.int.inj (Option.some.inj a2))
def Q1 (tA fA iA : Addr) (pp : Int32) (h0 : Heap) (n0 : Nat) (v : Option Value) (h : Heap) (L : List Loc) : Prop := v = some (.ref (own_pick tA fA iA ((pp &&& 2147483647) % 3))) ∧ Fr n0 L ∧ h = h0
theorem ef_rm1 (m : MethodId) (x0 : Int32) : entryFrame m #[(.int x0)] 2 = mkF m 0 #[.val (.int x0), .unset] [] := by first | (simp [entryFrame, mkF, argsToLocals, Value.category, maxLocals]; done) | rfl
set_option maxRecDepth 65536 in
set_option maxHeartbeats 40000000 in
theorem rm1 (l : Launch) (Z : State) (a0 : Array Value) (hw : ∀ d ∈ tables_1, d.before a0 Z = true) (ws : List Jvm.Cond) (tA fA iA : Addr) (pp : Int32) (h0 : Heap) (n0 : Nat) (O0 : Old Z n0 h0) (St : Sta Z Z.heap "com/example/mapweft/mapweft/select/Truth" "TRUE" "Lcom/example/mapweft/mapweft/select/Truth;" (.ref tA)) (Sf : Sta Z Z.heap "com/example/mapweft/mapweft/select/Truth" "FALSE" "Lcom/example/mapweft/mapweft/select/Truth;" (.ref fA)) (Si : Sta Z Z.heap "com/example/mapweft/mapweft/select/Truth" "INDETERMINATE" "Lcom/example/mapweft/mapweft/select/Truth;" (.ref iA)) :
    MetFree l own_y1 (head1 (Jvm.Cond.code own_y1 method_2_code 2 (some (.object "com/example/mapweft/mapweft/select/Truth")) :: ws) ({ frames := 0, cells := 0, slots := 0, locals := 0 } : Room)) (fun aR U => aR = #[(.int pp)] ∧ Z.Warmed39 U.vm ∧ U.heap = h0) (fun _ _ _ _ _ => True) (fun _ U o U' => ∃ v L, o = .returned v ∧ Q1 tA fA iA pp h0 n0 v U'.heap L ∧ FrameEnd U o U' L ({ frames := 0, cells := 0, slots := 0, locals := 0 } : Room).cells ({ frames := 0, cells := 0, slots := 0, locals := 0 } : Room).slots) := by
  refine MetFree.of_bodySF pf_1 hisR ?_
  intro p e s m args below meth c s₁ Bd hml0 hP hK
  obtain ⟨rfl, hZ, hhE⟩ := hP
  have hx := Bd.exec
  have hby := Bd.bytes
  have hml : c.maxLocals = 2 := hml0
  have hown : s.vm.findClass "com/example/mapweft/mapweft/select/TruthAndPinLaw" = some m.cls := findClass_of_methodNamed Bd.named
  have hnm := (name_of_methodNamed Bd.named Bd.method).1
  have X0 : Stand p l e ({ frames := 0, cells := 0, slots := 0, locals := 0 } : Room) s m #[(.int pp)] below meth c s₁ [] 0 0 := Stand.of_body Bd
  have e0 : s₁.heap = h0 := by rw [← hhE, Bd.state]; rfl
  have N0 := Fr.nil n0
  show own_Go p e below (own_Post s (Q1 tA fA iA pp h0 n0) ({ frames := 0, cells := 0, slots := 0, locals := 0 } : Room).cells ({ frames := 0, cells := 0, slots := 0, locals := 0 } : Room).slots) (s₁.setTop (entryFrame m #[(.int pp)] 2))
  rw [ef_rm1]
  generalize hG : own_Post s (Q1 tA fA iA pp h0 n0) ({ frames := 0, cells := 0, slots := 0, locals := 0 } : Room).cells ({ frames := 0, cells := 0, slots := 0, locals := 0 } : Room).slots = G
  refine own_iloadN X0 hx (hb hby d1_0) rfl 1 rfl ?_
  refine own_ldcInt X0 hx hown (mvT hZ (own_w hw 4 rfl)) (hb hby d1_1) 3 rfl ?_
  refine own_iand X0 hx (hb hby d1_3) 4 rfl ?_
  refine own_iconst X0 hx (hb hby d1_4) (3 : Int32) rfl 5 rfl ?_
  refine own_irem X0 hx (hb hby d1_5) (by decide) 6 rfl ?_
  refine own_istoreN X0 hx (hb hby d1_6) #[.val (.int pp), .val (.int ((pp &&& (2147483647 : Int32)) % (3 : Int32)))] rfl 7 rfl ?_
  refine own_iloadN X0 hx (hb hby d1_7) rfl 8 rfl ?_
  by_cases c1 : ((pp &&& (2147483647 : Int32)) % (3 : Int32)) = (0 : Int32)
  ·
    refine own_ifN X0 hx (hb hby d1_8) ((if0 _ _).trans (teq c1).2) 11 rfl ?_
    refine own_getS X0 hx hZ hown (own_w hw 5 rfl) Via.refl e0 (St.ext O0.2) (hb hby d1_11) 14 rfl (fun T2 X2 e2 => ?_)
    refine own_areturn X2 hx Bd.notSynchronized hG Bd.returns rfl rfl rfl (hb hby d1_14) (by decide) (by decide) ?_
    rw [e2]
    exact ⟨by unfold own_pick; rw [if_pos c1], N0, rfl⟩
  ·
    refine own_ifY X0 hx (hb hby d1_8) ((if0 _ _).trans (feq c1).2) 15 ⟨by decide, by decide⟩ ?_
    refine own_iloadN X0 hx (hb hby d1_15) rfl 16 rfl ?_
    refine own_iconst X0 hx (hb hby d1_16) (1 : Int32) rfl 17 rfl ?_
    by_cases c3 : ((pp &&& (2147483647 : Int32)) % (3 : Int32)) = (1 : Int32)
    ·
      refine own_icmpN X0 hx (hb hby d1_17) (teq c3).2 20 rfl ?_
      refine own_getS X0 hx hZ hown (own_w hw 19 rfl) Via.refl e0 (Sf.ext O0.2) (hb hby d1_20) 23 rfl (fun T4 X4 e4 => ?_)
      refine own_areturn X4 hx Bd.notSynchronized hG Bd.returns rfl rfl rfl (hb hby d1_23) (by decide) (by decide) ?_
      rw [e4]
      exact ⟨by unfold own_pick; rw [if_neg c1, if_pos c3], N0, rfl⟩
    ·
      refine own_icmpY X0 hx (hb hby d1_17) (feq c3).2 24 ⟨by decide, by decide⟩ ?_
      refine own_getS X0 hx hZ hown (own_w hw 20 rfl) Via.refl e0 (Si.ext O0.2) (hb hby d1_24) 27 rfl (fun T5 X5 e5 => ?_)
      refine own_areturn X5 hx Bd.notSynchronized hG Bd.returns rfl rfl rfl (hb hby d1_27) (by decide) (by decide) ?_
      rw [e5]
      exact ⟨by unfold own_pick; rw [if_neg c1, if_neg c3], N0, rfl⟩
def Q2 (tA fA iA x1 y1 : Addr) (h0 : Heap) (n0 : Nat) (v : Option Value) (h : Heap) (L : List Loc) : Prop := v = some (.ref (own_and tA fA iA x1 y1)) ∧ Fr n0 L ∧ h = h0
theorem ef_rm2 (m : MethodId) (x0 : Addr) (x1 : Addr) : entryFrame m #[(.ref x0), (.ref x1)] 2 = mkF m 0 #[.val (.ref x0), .val (.ref x1)] [] := by first | (simp [entryFrame, mkF, argsToLocals, Value.category, maxLocals]; done) | rfl
set_option maxRecDepth 65536 in
set_option maxHeartbeats 40000000 in
theorem rm2 (l : Launch) (Z : State) (a0 : Array Value) (hw : ∀ d ∈ tables_1, d.before a0 Z = true) (ws : List Jvm.Cond) (tA fA iA : Addr) (x1 y1 : Addr) (h0 : Heap) (n0 : Nat) (O0 : Old Z n0 h0) (St : Sta Z Z.heap "com/example/mapweft/mapweft/select/Truth" "TRUE" "Lcom/example/mapweft/mapweft/select/Truth;" (.ref tA)) (Sf : Sta Z Z.heap "com/example/mapweft/mapweft/select/Truth" "FALSE" "Lcom/example/mapweft/mapweft/select/Truth;" (.ref fA)) (Si : Sta Z Z.heap "com/example/mapweft/mapweft/select/Truth" "INDETERMINATE" "Lcom/example/mapweft/mapweft/select/Truth;" (.ref iA)) :
    MetFree l own_y2 (head1 (Jvm.Cond.code own_y2 prog_53_method_5_code 2 (some (.object "com/example/mapweft/mapweft/select/Truth")) :: ws) ({ frames := 0, cells := 0, slots := 0, locals := 0 } : Room)) (fun aR U => aR = #[(.ref x1), (.ref y1)] ∧ Z.Warmed39 U.vm ∧ U.heap = h0) (fun _ _ _ _ _ => True) (fun _ U o U' => ∃ v L, o = .returned v ∧ Q2 tA fA iA x1 y1 h0 n0 v U'.heap L ∧ FrameEnd U o U' L ({ frames := 0, cells := 0, slots := 0, locals := 0 } : Room).cells ({ frames := 0, cells := 0, slots := 0, locals := 0 } : Room).slots) := by
  refine MetFree.of_bodySF pf_2 hisR ?_
  intro p e s m args below meth c s₁ Bd hml0 hP hK
  obtain ⟨rfl, hZ, hhE⟩ := hP
  have hx := Bd.exec
  have hby := Bd.bytes
  have hml : c.maxLocals = 2 := hml0
  have hown : s.vm.findClass "com/example/mapweft/mapweft/select/Truth" = some m.cls := findClass_of_methodNamed Bd.named
  have hnm := (name_of_methodNamed Bd.named Bd.method).1
  have X0 : Stand p l e ({ frames := 0, cells := 0, slots := 0, locals := 0 } : Room) s m #[(.ref x1), (.ref y1)] below meth c s₁ [] 0 0 := Stand.of_body Bd
  have e0 : s₁.heap = h0 := by rw [← hhE, Bd.state]; rfl
  have N0 := Fr.nil n0
  show own_Go p e below (own_Post s (Q2 tA fA iA x1 y1 h0 n0) ({ frames := 0, cells := 0, slots := 0, locals := 0 } : Room).cells ({ frames := 0, cells := 0, slots := 0, locals := 0 } : Room).slots) (s₁.setTop (entryFrame m #[(.ref x1), (.ref y1)] 2))
  rw [ef_rm2]
  generalize hG : own_Post s (Q2 tA fA iA x1 y1 h0 n0) ({ frames := 0, cells := 0, slots := 0, locals := 0 } : Room).cells ({ frames := 0, cells := 0, slots := 0, locals := 0 } : Room).slots = G
  refine own_aloadN X0 hx (hb hby d2_0) rfl rfl 1 rfl ?_
  refine own_getS X0 hx hZ hown (own_w hw 13 rfl) Via.refl e0 (Sf.ext O0.2) (hb hby d2_1) 4 rfl (fun T6 X6 e6 => ?_)
  by_cases c7 : x1 = fA
  ·
    refine own_acmpY X6 hx (hb hby d2_4) rfl rfl true (decide_eq_true (congrArg Value.ref c7)) 14 (by decide) (by decide) ?_
    refine own_getS X6 hx hZ hown (own_w hw 13 rfl) Via.refl e6 (Sf.ext O0.2) (hb hby d2_14) 17 rfl (fun T8 X8 e8 => ?_)
    refine own_areturn X8 hx Bd.notSynchronized hG Bd.returns rfl rfl rfl (hb hby d2_17) (by decide) (by decide) ?_
    rw [e8]
    exact ⟨by unfold own_and; rw [if_pos c7], N0, rfl⟩
  ·
    refine own_acmpY X6 hx (hb hby d2_4) rfl rfl false (decide_eq_false fun q => c7 (Value.ref.inj q)) 7 (by decide) (by decide) ?_
    refine own_aloadN X6 hx (hb hby d2_7) rfl rfl 8 rfl ?_
    refine own_getS X6 hx hZ hown (own_w hw 13 rfl) Via.refl e6 (Sf.ext O0.2) (hb hby d2_8) 11 rfl (fun T9 X9 e9 => ?_)
    by_cases c10 : y1 = fA
    ·
      refine own_acmpY X9 hx (hb hby d2_11) rfl rfl true (decide_eq_true (congrArg Value.ref c10)) 14 (by decide) (by decide) ?_
      refine own_getS X9 hx hZ hown (own_w hw 13 rfl) Via.refl e9 (Sf.ext O0.2) (hb hby d2_14) 17 rfl (fun T11 X11 e11 => ?_)
      refine own_areturn X11 hx Bd.notSynchronized hG Bd.returns rfl rfl rfl (hb hby d2_17) (by decide) (by decide) ?_
      rw [e11]
      exact ⟨by unfold own_and; rw [if_neg c7, if_pos c10], N0, rfl⟩
    ·
      refine own_acmpY X9 hx (hb hby d2_11) rfl rfl false (decide_eq_false fun q => c10 (Value.ref.inj q)) 18 (by decide) (by decide) ?_
      refine own_aloadN X9 hx (hb hby d2_18) rfl rfl 19 rfl ?_
      refine own_getS X9 hx hZ hown (own_w hw 15 rfl) Via.refl e9 (St.ext O0.2) (hb hby d2_19) 22 rfl (fun T12 X12 e12 => ?_)
      by_cases c13 : x1 = tA
      ·
        refine own_acmpY X12 hx (hb hby d2_22) rfl rfl true (decide_eq_true (congrArg Value.ref c13)) 25 (by decide) (by decide) ?_
        refine own_aloadN X12 hx (hb hby d2_25) rfl rfl 26 rfl ?_
        refine own_getS X12 hx hZ hown (own_w hw 15 rfl) Via.refl e12 (St.ext O0.2) (hb hby d2_26) 29 rfl (fun T14 X14 e14 => ?_)
        by_cases c15 : y1 = tA
        ·
          refine own_acmpY X14 hx (hb hby d2_29) rfl rfl true (decide_eq_true (congrArg Value.ref c15)) 32 (by decide) (by decide) ?_
          refine own_getS X14 hx hZ hown (own_w hw 15 rfl) Via.refl e14 (St.ext O0.2) (hb hby d2_32) 35 rfl (fun T16 X16 e16 => ?_)
          refine own_goto X16 hx (hb hby d2_35) 41 ⟨by decide, by decide⟩ ?_
          refine own_areturn X16 hx Bd.notSynchronized hG Bd.returns rfl rfl rfl (hb hby d2_41) (by decide) (by decide) ?_
          rw [e16]
          exact ⟨by unfold own_and; rw [if_neg c7, if_neg c10, if_pos c13, if_pos c15], N0, rfl⟩
        ·
          refine own_acmpY X14 hx (hb hby d2_29) rfl rfl false (decide_eq_false fun q => c15 (Value.ref.inj q)) 38 (by decide) (by decide) ?_
          refine own_getS X14 hx hZ hown (own_w hw 26 rfl) Via.refl e14 (Si.ext O0.2) (hb hby d2_38) 41 rfl (fun T17 X17 e17 => ?_)
          refine own_areturn X17 hx Bd.notSynchronized hG Bd.returns rfl rfl rfl (hb hby d2_41) (by decide) (by decide) ?_
          rw [e17]
          exact ⟨by unfold own_and; rw [if_neg c7, if_neg c10, if_pos c13, if_neg c15], N0, rfl⟩
      ·
        refine own_acmpY X12 hx (hb hby d2_22) rfl rfl false (decide_eq_false fun q => c13 (Value.ref.inj q)) 38 (by decide) (by decide) ?_
        refine own_getS X12 hx hZ hown (own_w hw 26 rfl) Via.refl e12 (Si.ext O0.2) (hb hby d2_38) 41 rfl (fun T18 X18 e18 => ?_)
        refine own_areturn X18 hx Bd.notSynchronized hG Bd.returns rfl rfl rfl (hb hby d2_41) (by decide) (by decide) ?_
        rw [e18]
        exact ⟨by unfold own_and; rw [if_neg c7, if_neg c10, if_neg c13], N0, rfl⟩
def Q3 (tA fA iA x1 : Addr) (h0 : Heap) (n0 : Nat) (v : Option Value) (h : Heap) (L : List Loc) : Prop := v = some (.int (own_rank tA fA iA x1)) ∧ Fr n0 L ∧ h = h0
theorem ef_rm3 (m : MethodId) (x0 : Addr) : entryFrame m #[(.ref x0)] 1 = mkF m 0 #[.val (.ref x0)] [] := by first | (simp [entryFrame, mkF, argsToLocals, Value.category, maxLocals]; done) | rfl
set_option maxRecDepth 65536 in
set_option maxHeartbeats 40000000 in
theorem rm3 (l : Launch) (Z : State) (a0 : Array Value) (hw : ∀ d ∈ tables_1, d.before a0 Z = true) (ws : List Jvm.Cond) (tA fA iA : Addr) (x1 : Addr) (h0 : Heap) (n0 : Nat) (O0 : Old Z n0 h0) (St : Sta Z Z.heap "com/example/mapweft/mapweft/select/Truth" "TRUE" "Lcom/example/mapweft/mapweft/select/Truth;" (.ref tA)) (Sf : Sta Z Z.heap "com/example/mapweft/mapweft/select/Truth" "FALSE" "Lcom/example/mapweft/mapweft/select/Truth;" (.ref fA)) (Si : Sta Z Z.heap "com/example/mapweft/mapweft/select/Truth" "INDETERMINATE" "Lcom/example/mapweft/mapweft/select/Truth;" (.ref iA)) :
    MetFree l own_y3 (head1 (Jvm.Cond.code own_y3 method_3_code 1 (some .int) :: ws) ({ frames := 0, cells := 0, slots := 0, locals := 0 } : Room)) (fun aR U => aR = #[(.ref x1)] ∧ Z.Warmed39 U.vm ∧ U.heap = h0) (fun _ _ _ _ _ => True) (fun _ U o U' => ∃ v L, o = .returned v ∧ Q3 tA fA iA x1 h0 n0 v U'.heap L ∧ FrameEnd U o U' L ({ frames := 0, cells := 0, slots := 0, locals := 0 } : Room).cells ({ frames := 0, cells := 0, slots := 0, locals := 0 } : Room).slots) := by
  refine MetFree.of_bodySF pf_3 hisR ?_
  intro p e s m args below meth c s₁ Bd hml0 hP hK
  obtain ⟨rfl, hZ, hhE⟩ := hP
  have hx := Bd.exec
  have hby := Bd.bytes
  have hml : c.maxLocals = 1 := hml0
  have hown : s.vm.findClass "com/example/mapweft/mapweft/select/TruthAndPinLaw" = some m.cls := findClass_of_methodNamed Bd.named
  have hnm := (name_of_methodNamed Bd.named Bd.method).1
  have X0 : Stand p l e ({ frames := 0, cells := 0, slots := 0, locals := 0 } : Room) s m #[(.ref x1)] below meth c s₁ [] 0 0 := Stand.of_body Bd
  have e0 : s₁.heap = h0 := by rw [← hhE, Bd.state]; rfl
  have N0 := Fr.nil n0
  show own_Go p e below (own_Post s (Q3 tA fA iA x1 h0 n0) ({ frames := 0, cells := 0, slots := 0, locals := 0 } : Room).cells ({ frames := 0, cells := 0, slots := 0, locals := 0 } : Room).slots) (s₁.setTop (entryFrame m #[(.ref x1)] 1))
  rw [ef_rm3]
  generalize hG : own_Post s (Q3 tA fA iA x1 h0 n0) ({ frames := 0, cells := 0, slots := 0, locals := 0 } : Room).cells ({ frames := 0, cells := 0, slots := 0, locals := 0 } : Room).slots = G
  refine own_aloadN X0 hx (hb hby d3_0) rfl rfl 1 rfl ?_
  refine own_getS X0 hx hZ hown (own_w hw 19 rfl) Via.refl e0 (Sf.ext O0.2) (hb hby d3_1) 4 rfl (fun T19 X19 e19 => ?_)
  by_cases c20 : x1 = fA
  ·
    refine own_acmpY X19 hx (hb hby d3_4) rfl rfl true (decide_eq_true (congrArg Value.ref c20)) 7 (by decide) (by decide) ?_
    refine own_iconst X19 hx (hb hby d3_7) (0 : Int32) rfl 8 rfl ?_
    refine own_ireturn X19 hx Bd.notSynchronized hG Bd.returns (hb hby d3_8) (by decide) (by decide) ?_
    rw [e19]
    exact ⟨by unfold own_rank; rw [if_pos c20], N0, rfl⟩
  ·
    refine own_acmpY X19 hx (hb hby d3_4) rfl rfl false (decide_eq_false fun q => c20 (Value.ref.inj q)) 9 (by decide) (by decide) ?_
    refine own_aloadN X19 hx (hb hby d3_9) rfl rfl 10 rfl ?_
    refine own_getS X19 hx hZ hown (own_w hw 20 rfl) Via.refl e19 (Si.ext O0.2) (hb hby d3_10) 13 rfl (fun T21 X21 e21 => ?_)
    by_cases c22 : x1 = iA
    ·
      refine own_acmpY X21 hx (hb hby d3_13) rfl rfl true (decide_eq_true (congrArg Value.ref c22)) 16 (by decide) (by decide) ?_
      refine own_iconst X21 hx (hb hby d3_16) (1 : Int32) rfl 17 rfl ?_
      refine own_ireturn X21 hx Bd.notSynchronized hG Bd.returns (hb hby d3_17) (by decide) (by decide) ?_
      rw [e21]
      exact ⟨by unfold own_rank; rw [if_neg c20, if_pos c22], N0, rfl⟩
    ·
      refine own_acmpY X21 hx (hb hby d3_13) rfl rfl false (decide_eq_false fun q => c22 (Value.ref.inj q)) 18 (by decide) (by decide) ?_
      refine own_aloadN X21 hx (hb hby d3_18) rfl rfl 19 rfl ?_
      refine own_getS X21 hx hZ hown (own_w hw 5 rfl) Via.refl e21 (St.ext O0.2) (hb hby d3_19) 22 rfl (fun T23 X23 e23 => ?_)
      by_cases c24 : x1 = tA
      ·
        refine own_acmpY X23 hx (hb hby d3_22) rfl rfl true (decide_eq_true (congrArg Value.ref c24)) 25 (by decide) (by decide) ?_
        refine own_iconst X23 hx (hb hby d3_25) (2 : Int32) rfl 26 rfl ?_
        refine own_ireturn X23 hx Bd.notSynchronized hG Bd.returns (hb hby d3_26) (by decide) (by decide) ?_
        rw [e23]
        exact ⟨by unfold own_rank; rw [if_neg c20, if_neg c22, if_pos c24], N0, rfl⟩
      ·
        refine own_acmpY X23 hx (hb hby d3_22) rfl rfl false (decide_eq_false fun q => c24 (Value.ref.inj q)) 27 (by decide) (by decide) ?_
        refine own_iconst X23 hx (hb hby d3_27) (-1 : Int32) rfl 28 rfl ?_
        refine own_ireturn X23 hx Bd.notSynchronized hG Bd.returns (hb hby d3_28) (by decide) (by decide) ?_
        rw [e23]
        exact ⟨by unfold own_rank; rw [if_neg c20, if_neg c22, if_neg c24], N0, rfl⟩
def Q4 (a b : Int32) (h0 : Heap) (n0 : Nat) (v : Option Value) (h : Heap) (L : List Loc) : Prop := v = some (.int (own_min a b)) ∧ Fr n0 L ∧ h = h0
theorem ef_rm4 (m : MethodId) (x0 : Int32) (x1 : Int32) : entryFrame m #[(.int x0), (.int x1)] 2 = mkF m 0 #[.val (.int x0), .val (.int x1)] [] := by first | (simp [entryFrame, mkF, argsToLocals, Value.category, maxLocals]; done) | rfl
set_option maxRecDepth 65536 in
set_option maxHeartbeats 40000000 in
theorem rm4 (l : Launch) (Z : State) (a0 : Array Value) (hw : ∀ d ∈ tables_1, d.before a0 Z = true) (ws : List Jvm.Cond) (a b : Int32) (h0 : Heap) (n0 : Nat)  :
    MetFree l own_y4 (head1 (Jvm.Cond.code own_y4 jdk_29_method_69_code 2 (some .int) :: ws) ({ frames := 0, cells := 0, slots := 0, locals := 0 } : Room)) (fun aR U => aR = #[(.int a), (.int b)] ∧ Z.Warmed39 U.vm ∧ U.heap = h0) (fun _ _ _ _ _ => True) (fun _ U o U' => ∃ v L, o = .returned v ∧ Q4 a b h0 n0 v U'.heap L ∧ FrameEnd U o U' L ({ frames := 0, cells := 0, slots := 0, locals := 0 } : Room).cells ({ frames := 0, cells := 0, slots := 0, locals := 0 } : Room).slots) := by
  refine MetFree.of_bodySF pf_4 hisR ?_
  intro p e s m args below meth c s₁ Bd hml0 hP hK
  obtain ⟨rfl, hZ, hhE⟩ := hP
  have hx := Bd.exec
  have hby := Bd.bytes
  have hml : c.maxLocals = 2 := hml0
  have hown : s.vm.findClass "java/lang/Math" = some m.cls := findClass_of_methodNamed Bd.named
  have hnm := (name_of_methodNamed Bd.named Bd.method).1
  have X0 : Stand p l e ({ frames := 0, cells := 0, slots := 0, locals := 0 } : Room) s m #[(.int a), (.int b)] below meth c s₁ [] 0 0 := Stand.of_body Bd
  have e0 : s₁.heap = h0 := by rw [← hhE, Bd.state]; rfl
  have N0 := Fr.nil n0
  show own_Go p e below (own_Post s (Q4 a b h0 n0) ({ frames := 0, cells := 0, slots := 0, locals := 0 } : Room).cells ({ frames := 0, cells := 0, slots := 0, locals := 0 } : Room).slots) (s₁.setTop (entryFrame m #[(.int a), (.int b)] 2))
  rw [ef_rm4]
  generalize hG : own_Post s (Q4 a b h0 n0) ({ frames := 0, cells := 0, slots := 0, locals := 0 } : Room).cells ({ frames := 0, cells := 0, slots := 0, locals := 0 } : Room).slots = G
  refine own_iloadN X0 hx (hb hby d4_0) rfl 1 rfl ?_
  refine own_iloadN X0 hx (hb hby d4_1) rfl 2 rfl ?_
  by_cases c25 : b < a
  ·
    refine own_icmpY X0 hx (hb hby d4_2) (tlt c25).2.2.1 9 ⟨by decide, by decide⟩ ?_
    refine own_iloadN X0 hx (hb hby d4_9) rfl 10 rfl ?_
    refine own_ireturn X0 hx Bd.notSynchronized hG Bd.returns (hb hby d4_10) (by decide) (by decide) ?_
    rw [e0]
    exact ⟨by unfold own_min; rw [if_pos c25], N0, rfl⟩
  ·
    refine own_icmpN X0 hx (hb hby d4_2) (flt c25).2.2.1 5 rfl ?_
    refine own_iloadN X0 hx (hb hby d4_5) rfl 6 rfl ?_
    refine own_goto X0 hx (hb hby d4_6) 10 ⟨by decide, by decide⟩ ?_
    refine own_ireturn X0 hx Bd.notSynchronized hG Bd.returns (hb hby d4_10) (by decide) (by decide) ?_
    rw [e0]
    exact ⟨by unfold own_min; rw [if_neg c25], N0, rfl⟩
def Q0 (h0 : Heap) (n0 : Nat) (v : Option Value) (h : Heap) (L : List Loc) : Prop := v = some (.int 1) ∧ Fr n0 L
theorem ef_rm0 (m : MethodId) (x0 : Int32) (x1 : Int32) : entryFrame m #[(.int x0), (.int x1)] maxLocals = mkF m 0 #[.val (.int x0), .val (.int x1), .unset, .unset, .unset, .unset] [] := by first | (simp [entryFrame, mkF, argsToLocals, Value.category, maxLocals]; done) | rfl
set_option maxRecDepth 65536 in
set_option maxHeartbeats 40000000 in
theorem rm0 (l : Launch) (Z : State) (a0 : Array Value) (hw : ∀ d ∈ tables_1, d.before a0 Z = true) (ws : List Jvm.Cond) (tA fA iA : Addr) (v0 v1 : Int32) (h0 : Heap) (n0 : Nat) (O0 : Old Z n0 h0) (St : Sta Z Z.heap "com/example/mapweft/mapweft/select/Truth" "TRUE" "Lcom/example/mapweft/mapweft/select/Truth;" (.ref tA)) (Sf : Sta Z Z.heap "com/example/mapweft/mapweft/select/Truth" "FALSE" "Lcom/example/mapweft/mapweft/select/Truth;" (.ref fA)) (Si : Sta Z Z.heap "com/example/mapweft/mapweft/select/Truth" "INDETERMINATE" "Lcom/example/mapweft/mapweft/select/Truth;" (.ref iA)) (h1 : tA ≠ fA) (h2 : tA ≠ iA) (h3 : fA ≠ iA) (Et : Exa Z h0 tA "com/example/mapweft/mapweft/select/Truth") (Ef : Exa Z h0 fA "com/example/mapweft/mapweft/select/Truth") (Ei : Exa Z h0 iA "com/example/mapweft/mapweft/select/Truth") :
    MetFree l x (head1 (Jvm.Cond.code x code maxLocals ret :: ws) room_1) (fun aR U => aR = #[(.int v0), (.int v1)] ∧ Z.Warmed39 U.vm ∧ U.heap = h0) (fun _ _ _ _ _ => True) (fun _ U o U' => ∃ v L, o = .returned v ∧ Q0 h0 n0 v U'.heap L ∧ FrameEnd U o U' L room_1.cells room_1.slots) := by
  refine MetFree.of_bodySF (plainFor_of_name pn_0) hisR ?_
  intro p e s m args below meth c s₁ Bd hml0 hP hK
  obtain ⟨rfl, hZ, hhE⟩ := hP
  have hx := Bd.exec
  have hby := Bd.bytes
  have hml : c.maxLocals = 6 := hml0
  have hown : s.vm.findClass "com/example/mapweft/mapweft/select/TruthAndPinLaw" = some m.cls := findClass_of_methodNamed Bd.named
  have hnm := (name_of_methodNamed Bd.named Bd.method).1
  have X0 : Stand p l e room_1 s m #[(.int v0), (.int v1)] below meth c s₁ [] 0 0 := Stand.of_body Bd
  have e0 : s₁.heap = h0 := by rw [← hhE, Bd.state]; rfl
  have N0 := Fr.nil n0
  show own_Go p e below (own_Post s (Q0 h0 n0) room_1.cells room_1.slots) (s₁.setTop (entryFrame m #[(.int v0), (.int v1)] maxLocals))
  rw [ef_rm0]
  generalize hG : own_Post s (Q0 h0 n0) room_1.cells room_1.slots = G
  refine own_iloadN X0 hx (hb hby at_0) rfl 1 rfl ?_
  refine own_callS X0 hx hZ hown (own_w hw 0 rfl) (own_w hw 1 rfl) (own_w hw 2 rfl) (own_w hw 3 rfl) (by decide) e0 (rm1 l Z a0 hw [] tA fA iA v0 h0 n0 O0 St Sf Si) (by rw [hml]; rfl) pd_0 (argsL := [(.int v0)]) rfl (rest := []) rfl (hb hby at_1) 0 (Nat.le_of_eq rfl) (by decide) (by decide) (by decide) (by decide) 4 rfl (fun T26 L26 v26 X26 hQ26 => ?_)
  obtain ⟨rfl, N26, e26⟩ := hQ26
  have N27 := Fr.app N0 N26
  show own_Go p e below G (T26.setTop (mkF m 4 #[.val (.int v0), .val (.int v1), .unset, .unset, .unset, .unset] [(.ref (own_pick tA fA iA ((v0 &&& 2147483647) % 3)))]))
  have q26 := own_three tA fA iA ((v0 &&& 2147483647) % 3)
  generalize hr28 : (own_pick tA fA iA ((v0 &&& 2147483647) % 3)) = r28 at q26 ⊢
  have Er28 : Exa Z h0 r28 "com/example/mapweft/mapweft/select/Truth" := by rcases q26 with rfl | rfl | rfl <;> assumption
  refine own_astoreN X26 hx (hb hby at_4) rfl #[.val (.int v0), .val (.int v1), .val (.ref r28), .unset, .unset, .unset] rfl 5 rfl ?_
  refine own_iloadN X26 hx (hb hby at_5) rfl 6 rfl ?_
  refine own_callS X26 hx hZ hown (own_w hw 0 rfl) (own_w hw 1 rfl) (own_w hw 2 rfl) (own_w hw 3 rfl) (by decide) e26 (rm1 l Z a0 hw [] tA fA iA v1 h0 n0 O0 St Sf Si) (by rw [hml]; rfl) pd_0 (argsL := [(.int v1)]) rfl (rest := []) rfl (hb hby at_6) 0 (Nat.le_of_eq rfl) (by decide) (by decide) (by decide) (by decide) 9 rfl (fun T29 L29 v29 X29 hQ29 => ?_)
  obtain ⟨rfl, N29, e29⟩ := hQ29
  have N30 := Fr.app N27 N29
  show own_Go p e below G (T29.setTop (mkF m 9 #[.val (.int v0), .val (.int v1), .val (.ref r28), .unset, .unset, .unset] [(.ref (own_pick tA fA iA ((v1 &&& 2147483647) % 3)))]))
  have q29 := own_three tA fA iA ((v1 &&& 2147483647) % 3)
  generalize hr31 : (own_pick tA fA iA ((v1 &&& 2147483647) % 3)) = r31 at q29 ⊢
  have Er31 : Exa Z h0 r31 "com/example/mapweft/mapweft/select/Truth" := by rcases q29 with rfl | rfl | rfl <;> assumption
  refine own_astoreN X29 hx (hb hby at_9) rfl #[.val (.int v0), .val (.int v1), .val (.ref r28), .val (.ref r31), .unset, .unset] rfl 10 rfl ?_
  refine own_aloadN X29 hx (hb hby at_10) rfl rfl 11 rfl ?_
  refine own_aloadN X29 hx (hb hby at_11) rfl rfl 12 rfl ?_
  refine own_callV X29 hx hZ hown (own_w hw 8 rfl) (own_w hw 9 rfl) (own_w hw 11 rfl) (notFace_of_selects (args := #[]) (mvT hZ (own_w hw 11 rfl))) (own_w hw 10 rfl) (own_w hw 6 rfl) (own_w hw 12 rfl) (by decide) e29 Er28 (rm2 l Z a0 hw [] tA fA iA r28 r31 h0 n0 O0 St Sf Si) (by rw [hml]; rfl) pd_1 (argsL := [(.ref r31)]) rfl (rest := []) rfl (hb hby at_12) 0 (Nat.le_of_eq rfl) (by decide) (by decide) (by decide) (by decide) 15 rfl (fun T32 L32 v32 X32 hQ32 => ?_)
  obtain ⟨rfl, N32, e32⟩ := hQ32
  have N33 := Fr.app N30 N32
  show own_Go p e below G (T32.setTop (mkF m 15 #[.val (.int v0), .val (.int v1), .val (.ref r28), .val (.ref r31), .unset, .unset] [(.ref (own_and tA fA iA r28 r31))]))
  refine own_astore X32 hx (hb hby at_15) rfl #[.val (.int v0), .val (.int v1), .val (.ref r28), .val (.ref r31), .val (.ref (own_and tA fA iA r28 r31)), .unset] rfl 17 rfl ?_
  refine own_aloadN X32 hx (hb hby at_17) rfl rfl 18 rfl ?_
  refine own_callS X32 hx hZ hown (own_w hw 16 rfl) (own_w hw 17 rfl) (own_w hw 2 rfl) (own_w hw 18 rfl) (by decide) e32 (rm3 l Z a0 hw [] tA fA iA r28 h0 n0 O0 St Sf Si) (by rw [hml]; rfl) pd_2 (argsL := [(.ref r28)]) rfl (rest := []) rfl (hb hby at_18) 0 (Nat.le_of_eq rfl) (by decide) (by decide) (by decide) (by decide) 21 rfl (fun T34 L34 v34 X34 hQ34 => ?_)
  obtain ⟨rfl, N34, e34⟩ := hQ34
  have N35 := Fr.app N33 N34
  show own_Go p e below G (T34.setTop (mkF m 21 #[.val (.int v0), .val (.int v1), .val (.ref r28), .val (.ref r31), .val (.ref (own_and tA fA iA r28 r31)), .unset] [(.int (own_rank tA fA iA r28))]))
  refine own_aloadN X34 hx (hb hby at_21) rfl rfl 22 rfl ?_
  refine own_callS X34 hx hZ hown (own_w hw 16 rfl) (own_w hw 17 rfl) (own_w hw 2 rfl) (own_w hw 18 rfl) (by decide) e34 (rm3 l Z a0 hw [] tA fA iA r31 h0 n0 O0 St Sf Si) (by rw [hml]; rfl) pd_2 (argsL := [(.ref r31)]) rfl (rest := [(.int (own_rank tA fA iA r28))]) rfl (hb hby at_22) 1 (Nat.le_of_eq rfl) (by decide) (by decide) (by decide) (by decide) 25 rfl (fun T36 L36 v36 X36 hQ36 => ?_)
  obtain ⟨rfl, N36, e36⟩ := hQ36
  have N37 := Fr.app N35 N36
  show own_Go p e below G (T36.setTop (mkF m 25 #[.val (.int v0), .val (.int v1), .val (.ref r28), .val (.ref r31), .val (.ref (own_and tA fA iA r28 r31)), .unset] [(.int (own_rank tA fA iA r31)), (.int (own_rank tA fA iA r28))]))
  refine own_callS X36 hx hZ hown (own_w hw 22 rfl) (own_w hw 23 rfl) (own_w hw 24 rfl) (own_w hw 25 rfl) (by decide) e36 (rm4 l Z a0 hw [] (own_rank tA fA iA r28) (own_rank tA fA iA r31) h0 n0) (by rw [hml]; rfl) pd_3 (argsL := [(.int (own_rank tA fA iA r28)), (.int (own_rank tA fA iA r31))]) rfl (rest := []) rfl (hb hby at_25) 0 (Nat.le_of_eq rfl) (by decide) (by decide) (by decide) (by decide) 28 rfl (fun T38 L38 v38 X38 hQ38 => ?_)
  obtain ⟨rfl, N38, e38⟩ := hQ38
  have N39 := Fr.app N37 N38
  show own_Go p e below G (T38.setTop (mkF m 28 #[.val (.int v0), .val (.int v1), .val (.ref r28), .val (.ref r31), .val (.ref (own_and tA fA iA r28 r31)), .unset] [(.int (own_min (own_rank tA fA iA r28) (own_rank tA fA iA r31)))]))
  refine own_istore X38 hx (hb hby at_28) #[.val (.int v0), .val (.int v1), .val (.ref r28), .val (.ref r31), .val (.ref (own_and tA fA iA r28 r31)), .val (.int (own_min (own_rank tA fA iA r28) (own_rank tA fA iA r31)))] rfl 30 rfl ?_
  refine own_aload X38 hx (hb hby at_30) rfl rfl 32 rfl ?_
  refine own_callS X38 hx hZ hown (own_w hw 16 rfl) (own_w hw 17 rfl) (own_w hw 2 rfl) (own_w hw 18 rfl) (by decide) e38 (rm3 l Z a0 hw [] tA fA iA (own_and tA fA iA r28 r31) h0 n0 O0 St Sf Si) (by rw [hml]; rfl) pd_2 (argsL := [(.ref (own_and tA fA iA r28 r31))]) rfl (rest := []) rfl (hb hby at_32) 0 (Nat.le_of_eq rfl) (by decide) (by decide) (by decide) (by decide) 35 rfl (fun T40 L40 v40 X40 hQ40 => ?_)
  obtain ⟨rfl, N40, e40⟩ := hQ40
  have N41 := Fr.app N39 N40
  show own_Go p e below G (T40.setTop (mkF m 35 #[.val (.int v0), .val (.int v1), .val (.ref r28), .val (.ref r31), .val (.ref (own_and tA fA iA r28 r31)), .val (.int (own_min (own_rank tA fA iA r28) (own_rank tA fA iA r31)))] [(.int (own_rank tA fA iA (own_and tA fA iA r28 r31)))]))
  refine own_iload X40 hx (hb hby at_35) rfl 37 rfl ?_
  refine own_icmpN X40 hx (hb hby at_37) (teq (own_law h1 h2 h3 q26 q29)).2 40 rfl ?_
  refine own_iconst X40 hx (hb hby at_40) (1 : Int32) rfl 41 rfl ?_
  refine own_goto X40 hx (hb hby at_41) 45 ⟨by decide, by decide⟩ ?_
  refine own_nreturn X40 hx Bd.notSynchronized hG Bd.returns (by simp) (hb hby at_45) (by decide) (by decide) ?_
  rw [e40]
  exact ⟨rfl, N41⟩
set_option maxRecDepth 65536 in
set_option maxHeartbeats 40000000 in
theorem comes_1 {Post : Tables → Env → Array Value → State → Outcome → State → Prop} (hpost : ∀ tb e args s v u, (limb_1_1.after args s (.returned v) u = true ∧ limb_1_2.after args s (.returned v) u = true ∧ True) → FrameEnd s (.returned v) u (Jvm.fieldLocs frame_1_writes args s ++ Jvm.arrayLocs frame_1_arrays args s ++ Jvm.staticLocs frame_1_statics s) 0 0 → Post tb e args s (.returned v) u) :
    ArmFor flags0 classFile x code maxLocals ret World_1 tables_1 room_1 Calls_1 rest_1 Pre_1 Post := by
  intro l hfl _ _ p e ha hc hk s m args below hf hA hF happ hP
  obtain ⟨hcalls, hrest, hpre⟩ := hP
  obtain ⟨-, -, -, hnamed, -, -, -, hat⟩ := (Spec.applies_iff hf).mp happ
  obtain ⟨hg, hn⟩ := and_e (Cond.before_iff.mp (show (Jvm.Cond.and given_1 narrow_1).before args s = true from hpre))
  obtain ⟨hcount, k0⟩ := and_e hg
  obtain ⟨q0, k1⟩ := and_e k0
  have q1 := k1
  obtain ⟨w0, w1, rfl⟩ : ∃ w0 w1 : Value, args = #[w0, w1] := by
    have hs : args.size = 2 := by simpa [Cond.value, given_1] using hcount
    obtain ⟨L⟩ := args
    match L, hs with
    | [w0, w1], _ => exact ⟨w0, w1, rfl⟩
  have hw := fun d (hd : d ∈ tables_1) => atoms_spec (ws := Jvm.Cond.code x code maxLocals ret :: tables_1) hat d (List.mem_cons_of_mem _ hd)
  have hfit : Fit s := fun {y c} hc i hi => by
    obtain ⟨ha, rfl⟩ := Array.getElem?_eq_some_iff.mp hc
    have q := List.all_eq_true.mp ((Array.all_eq_true_iff_forall_mem.mp hF) _ (Array.getElem_mem ha)) i (List.mem_range.mpr hi)
    simpa [Array.getElem?_eq_getElem hi] using q
  obtain ⟨i0, r0⟩ := is_v q0
  obtain rfl : w0 = (.int i0) := Option.some.inj r0
  obtain ⟨i1, r1⟩ := is_v q1
  obtain rfl : w1 = (.int i1) := Option.some.inj r1
  obtain ⟨n1, m1⟩ := and_e hn
  obtain ⟨n2, m2⟩ := and_e m1
  obtain ⟨n3, m3⟩ := and_e m2
  obtain ⟨n4, m4⟩ := and_e m3
  obtain ⟨n5, n6⟩ := and_e m4
  obtain ⟨tA, et⟩ := exa_v n1
  obtain ⟨fA, ef⟩ := exa_v n2
  obtain ⟨iA, ei⟩ := exa_v n5
  have St : Sta s s.heap "com/example/mapweft/mapweft/select/Truth" "TRUE" "Lcom/example/mapweft/mapweft/select/Truth;" (.ref tA) := Sta.start et (Or.inr ⟨hw _ (List.mem_of_getElem? (i := 6) rfl), hw _ (List.mem_of_getElem? (i := 7) rfl)⟩)
  have Sf : Sta s s.heap "com/example/mapweft/mapweft/select/Truth" "FALSE" "Lcom/example/mapweft/mapweft/select/Truth;" (.ref fA) := Sta.start ef (Or.inr ⟨hw _ (List.mem_of_getElem? (i := 6) rfl), hw _ (List.mem_of_getElem? (i := 14) rfl)⟩)
  have Si : Sta s s.heap "com/example/mapweft/mapweft/select/Truth" "INDETERMINATE" "Lcom/example/mapweft/mapweft/select/Truth;" (.ref iA) := Sta.start ei (Or.inr ⟨hw _ (List.mem_of_getElem? (i := 6) rfl), hw _ (List.mem_of_getElem? (i := 21) rfl)⟩)
  obtain ⟨n, o, h1, h2, h3, _, L, rfl, ⟨rfl, N⟩, hq⟩ := rm0 l s _ hw tables_1 tA fA iA i0 i1 s.heap s.heap.size (Old.start s) St Sf Si (own_fld et ef n3 n4 (by decide)) (own_fld et ei n3 n6 (by decide)) (own_fld ef ei n4 n6 (by decide)) (Exa.start et n1) (Exa.start ef n2) (Exa.start ei n5) p e ha hc hk s m _ below hf ((Spec.applies_iff_loose hf).mp happ).1 ⟨rfl, State.Warmed39.refl s, rfl⟩ trivial
  refine ⟨n, _, h1, h2, h3, hpost _ _ _ _ _ _ ⟨Cond.after_iff.mpr rfl, Cond.after_iff.mpr (eq_i res_at (Term.int_eval (1)) rfl), trivial⟩ ⟨hq.1, hq.2.1, (hq.2.2.sift fun y hy => Or.inr (N y hy)).mono (by decide) (by decide)⟩⟩
theorem main_1_1 : Claimed_1_1 := comes_1 fun _ _ _ _ _ _ h hF => ⟨h.1, hF⟩
theorem main_1_2 : Claimed_1_2 := comes_1 fun _ _ _ _ _ _ h hF => ⟨h.2.1, hF⟩
end Jvm.Pilot.@@N@@
namespace Jvm.Pilot.@@N@@
open Jvm Jvm.ClassFile Sem Op Lib Jvm.Free Jvm.Stand Jvm.Pilot.@@N@@.Jvm.D
/-! MADE BY PROGRAM (witnessworld.py) out of the Statement's table words and the real class files: 13 classes; the members and pool entries that the words name. The judged class is class 1, her method 3. -/
namespace start1
open Jvm.ClassFile
def u (s : String) : CpInfo := .utf8 (stringToUtf16 s)
/-- a pool by its gaps: so many unusable entries, then the entry; so many at the end -/
def gap : Nat → List CpInfo → List CpInfo
  | 0, r => r
  | n + 1, r => .unusable :: gap n r
def poolList (es : List (Nat × CpInfo)) (last : Nat) : List CpInfo := es.foldr (fun e r => gap e.1 (e.2 :: r)) (gap last [])
def pool (es : List (Nat × CpInfo)) (last : Nat) : Array CpInfo := ⟨poolList es last⟩
def fileOf (pool : Array CpInfo) (this : Nat) (attrs : Array Attribute := #[]) (ms : Array MethodInfo := #[]) (fl : Nat := 33) (sup : Nat := 0) (ifs : Array Nat := #[]) (fds : Array FieldInfo := #[]) : ClassFile where
  minorVersion := 0
  majorVersion := 65
  constantPool := pool
  accessFlags := fl
  thisClass := this
  superClass := sup
  interfaces := ifs
  fields := fds
  methods := ms
  attributes := attrs
def plain (name : String) (sup : Option ClassId) : Class where
  name := name
  kind := .ordinary
  loader := none
  accessFlags := 33
  super := sup
  interfaces := #[]
  cf := none
  fields := #[]
  methods := #[]
  instanceTypes := #[]
  staticTypes := #[]
  resolved := #[]
  callSites := []
  init := .initialized
  statics := none
  mirror := none

def pool0 : Array CpInfo := pool [(5, u "<init>"), (0, u "()V"), (1, .class_ 10), (1, u "java/lang/Object")] 113

def k0m0 : Method := { name := "<init>", desc := "()V", sig := { parameters := [], returnType := none }, accessFlags := 1, code := none }
/-- java/lang/Object -/
def k0 : Class := { plain "java/lang/Object" none with
  accessFlags := 33
  interfaces := #[]
  cf := some (fileOf pool0 8 #[] #[{ accessFlags := 1, nameIndex := 5, descriptorIndex := 6, attributes := #[] }] 33 0 #[] #[])
  fields := #[]
  methods := #[k0m0]
  instanceTypes := #[]
  staticTypes := #[]
  resolved := Array.replicate 124 none
  statics := none }

def pool1 : Array CpInfo := pool [(2, .class_ 4), (1, u "java/lang/Object"), (0, u "<init>"), (0, u "()V"), (0, .integer 2147483647), (0, .fieldref 9 10), (0, .class_ 11), (0, .nameAndType 12 13), (0, u "com/example/mapweft/mapweft/select/Truth"), (0, u "TRUE"), (0, u "Lcom/example/mapweft/mapweft/select/Truth;"), (0, .fieldref 9 15), (0, .nameAndType 16 13), (0, u "FALSE"), (0, .fieldref 9 18), (0, .nameAndType 19 13), (0, u "INDETERMINATE"), (0, .methodref 21 22), (0, .class_ 23), (0, .nameAndType 24 25), (0, u "com/example/mapweft/mapweft/select/TruthAndPinLaw"), (0, u "pick"), (0, u "(I)Lcom/example/mapweft/mapweft/select/Truth;"), (0, .methodref 9 27), (0, .nameAndType 28 29), (0, u "and"), (0, u "(Lcom/example/mapweft/mapweft/select/Truth;)Lcom/example/mapweft/mapweft/select/Truth;"), (0, .methodref 21 31), (0, .nameAndType 32 33), (0, u "rank"), (0, u "(Lcom/example/mapweft/mapweft/select/Truth;)I"), (0, .methodref 35 36), (0, .class_ 37), (0, .nameAndType 38 39), (0, u "java/lang/Math"), (0, u "min"), (0, u "(II)I"), (3, u "law"), (0, u "(II)Z")] 2

def k1m0 : Method := { name := "<init>", desc := "()V", sig := { parameters := [], returnType := none }, accessFlags := 1, code := none }
def k1c1 : Code := { maxStack := 2, maxLocals := 2, code := method_2_code, exceptionTable := #[], attributes := #[] }
def k1m1 : Method := { name := "pick", desc := "(I)Lcom/example/mapweft/mapweft/select/Truth;", sig := { parameters := [.int], returnType := some (.object "com/example/mapweft/mapweft/select/Truth") }, accessFlags := 10, code := some k1c1 }
def k1c2 : Code := { maxStack := 2, maxLocals := 1, code := method_3_code, exceptionTable := #[], attributes := #[] }
def k1m2 : Method := { name := "rank", desc := "(Lcom/example/mapweft/mapweft/select/Truth;)I", sig := { parameters := [(.object "com/example/mapweft/mapweft/select/Truth")], returnType := some .int }, accessFlags := 10, code := some k1c2 }
def k1c3 : Code := { maxStack := 2, maxLocals := 6, code := code, exceptionTable := #[], attributes := #[] }
def k1m3 : Method := { name := "law", desc := "(II)Z", sig := { parameters := [.int, .int], returnType := some .boolean }, accessFlags := 9, code := some k1c3 }
/-- com/example/mapweft/mapweft/select/TruthAndPinLaw -/
def k1 : Class := { plain "com/example/mapweft/mapweft/select/TruthAndPinLaw" (some 0) with
  accessFlags := 49
  interfaces := #[]
  cf := some (fileOf pool1 21 #[] #[{ accessFlags := 1, nameIndex := 5, descriptorIndex := 6, attributes := #[] }, { accessFlags := 10, nameIndex := 24, descriptorIndex := 25, attributes := #[] }, { accessFlags := 10, nameIndex := 32, descriptorIndex := 33, attributes := #[] }, { accessFlags := 9, nameIndex := 43, descriptorIndex := 44, attributes := #[] }] 49 2 #[] #[])
  fields := #[]
  methods := #[k1m0, k1m1, k1m2, k1m3]
  instanceTypes := #[]
  staticTypes := #[]
  resolved := Array.replicate 47 none
  statics := none }

def pool2 : Array CpInfo := pool [(1, .class_ 2), (0, u "java/lang/constant/Constable"), (0, .class_ 4), (0, u "java/lang/Object")] 6

/-- java/lang/constant/Constable -/
def k2 : Class := { plain "java/lang/constant/Constable" (some 0) with
  accessFlags := 1537
  interfaces := #[]
  cf := some (fileOf pool2 1 #[] #[] 1537 3 #[] #[])
  fields := #[]
  methods := #[]
  instanceTypes := #[]
  staticTypes := #[]
  resolved := Array.replicate 11 none
  statics := none }

def pool3 : Array CpInfo := pool [(1, .class_ 2), (0, u "java/lang/Comparable"), (0, .class_ 4), (0, u "java/lang/Object")] 7

/-- java/lang/Comparable -/
def k3 : Class := { plain "java/lang/Comparable" (some 0) with
  accessFlags := 1537
  interfaces := #[]
  cf := some (fileOf pool3 1 #[] #[] 1537 3 #[] #[])
  fields := #[]
  methods := #[]
  instanceTypes := #[]
  staticTypes := #[]
  resolved := Array.replicate 12 none
  statics := none }

def pool4 : Array CpInfo := pool [(1, .class_ 2), (0, u "java/io/Serializable"), (0, .class_ 4), (0, u "java/lang/Object")] 2

/-- java/io/Serializable -/
def k4 : Class := { plain "java/io/Serializable" (some 0) with
  accessFlags := 1537
  interfaces := #[]
  cf := some (fileOf pool4 1 #[] #[] 1537 3 #[] #[])
  fields := #[]
  methods := #[]
  instanceTypes := #[]
  staticTypes := #[]
  resolved := Array.replicate 7 none
  statics := none }

def pool5 : Array CpInfo := pool [(2, .class_ 4), (1, u "java/lang/Enum"), (0, u "name"), (0, u "Ljava/lang/String;"), (2, u "ordinal"), (0, u "I"), (1, .class_ 14), (1, u "java/lang/Object"), (4, u "hash"), (86, .class_ 108), (1, u "java/lang/Enum$EnumDesc"), (2, .class_ 112), (0, u "java/lang/constant/Constable"), (0, .class_ 114), (0, u "java/lang/Comparable"), (0, .class_ 116), (0, u "java/io/Serializable")] 87

/-- java/lang/Enum -/
def k5 : Class := { plain "java/lang/Enum" (some 0) with
  accessFlags := 1057
  interfaces := #[2, 3, 4]
  cf := some (fileOf pool5 2 #[.nestMembers #[106]] #[] 1057 12 #[111, 113, 115] #[{ accessFlags := 18, nameIndex := 5, descriptorIndex := 6, attributes := #[] }, { accessFlags := 18, nameIndex := 9, descriptorIndex := 10, attributes := #[] }, { accessFlags := 2, nameIndex := 19, descriptorIndex := 10, attributes := #[] }])
  fields := #[{ name := "name", type := (.object "java/lang/String"), accessFlags := 18, slot := 0, constantValue := 0 }, { name := "ordinal", type := .int, accessFlags := 18, slot := 1, constantValue := 0 }, { name := "hash", type := .int, accessFlags := 2, slot := 2, constantValue := 0 }]
  methods := #[]
  instanceTypes := #[(.object "java/lang/String"), .int, .int]
  staticTypes := #[]
  resolved := Array.replicate 204 none
  statics := none }

def pool6 : Array CpInfo := pool [(1, .class_ 2), (0, u "com/example/mapweft/mapweft/select/Truth"), (0, .fieldref 1 4), (0, .nameAndType 5 6), (0, u "TRUE"), (0, u "Lcom/example/mapweft/mapweft/select/Truth;"), (0, .fieldref 1 8), (0, .nameAndType 9 6), (0, u "FALSE"), (0, .fieldref 1 11), (0, .nameAndType 12 6), (0, u "INDETERMINATE"), (2, u "$VALUES"), (0, u "[Lcom/example/mapweft/mapweft/select/Truth;"), (6, .class_ 25), (1, u "java/lang/Enum"), (24, u "and"), (0, u "(Lcom/example/mapweft/mapweft/select/Truth;)Lcom/example/mapweft/mapweft/select/Truth;")] 4

def k6c0 : Code := { maxStack := 2, maxLocals := 2, code := prog_53_method_5_code, exceptionTable := #[], attributes := #[] }
def k6m0 : Method := { name := "and", desc := "(Lcom/example/mapweft/mapweft/select/Truth;)Lcom/example/mapweft/mapweft/select/Truth;", sig := { parameters := [(.object "com/example/mapweft/mapweft/select/Truth")], returnType := some (.object "com/example/mapweft/mapweft/select/Truth") }, accessFlags := 0, code := some k6c0 }
/-- com/example/mapweft/mapweft/select/Truth -/
def k6 : Class := { plain "com/example/mapweft/mapweft/select/Truth" (some 5) with
  accessFlags := 16433
  interfaces := #[]
  cf := some (fileOf pool6 1 #[] #[{ accessFlags := 0, nameIndex := 50, descriptorIndex := 51, attributes := #[] }] 16433 23 #[] #[{ accessFlags := 16409, nameIndex := 5, descriptorIndex := 6, attributes := #[] }, { accessFlags := 16409, nameIndex := 9, descriptorIndex := 6, attributes := #[] }, { accessFlags := 16409, nameIndex := 12, descriptorIndex := 6, attributes := #[] }, { accessFlags := 4122, nameIndex := 15, descriptorIndex := 16, attributes := #[] }])
  fields := #[{ name := "TRUE", type := (.object "com/example/mapweft/mapweft/select/Truth"), accessFlags := 16409, slot := 0, constantValue := 0 }, { name := "FALSE", type := (.object "com/example/mapweft/mapweft/select/Truth"), accessFlags := 16409, slot := 1, constantValue := 0 }, { name := "INDETERMINATE", type := (.object "com/example/mapweft/mapweft/select/Truth"), accessFlags := 16409, slot := 2, constantValue := 0 }, { name := "$VALUES", type := (.array (.object "com/example/mapweft/mapweft/select/Truth")), accessFlags := 4122, slot := 3, constantValue := 0 }]
  methods := #[k6m0]
  instanceTypes := #[(.object "java/lang/String"), .int, .int]
  staticTypes := #[(.object "com/example/mapweft/mapweft/select/Truth"), (.object "com/example/mapweft/mapweft/select/Truth"), (.object "com/example/mapweft/mapweft/select/Truth"), (.array (.object "com/example/mapweft/mapweft/select/Truth"))]
  resolved := Array.replicate 56 none
  statics := some 0 }

def pool7 : Array CpInfo := pool [(1, .class_ 2), (0, u "java/lang/Math"), (1, .class_ 6), (1, u "java/lang/Object"), (0, u "<init>"), (0, u "()V"), (89, .class_ 100), (1, u "java/lang/Math$RandomNumberGeneratorHolder"), (71, u "negativeZeroFloatBits"), (0, u "J"), (2, u "negativeZeroDoubleBits"), (24, u "min"), (43, u "$assertionsDisabled"), (0, u "Z"), (88, u "(II)I"), (2, u "twoToTheDoubleScaleDown"), (0, u "D"), (4, u "twoToTheDoubleScaleUp"), (9, u "E"), (3, u "PI"), (2, u "TAU"), (2, u "DEGREES_TO_RADIANS"), (0, u "RADIANS_TO_DEGREES")] 94

def k7m0 : Method := { name := "<init>", desc := "()V", sig := { parameters := [], returnType := none }, accessFlags := 2, code := none }
def k7c1 : Code := { maxStack := 2, maxLocals := 2, code := jdk_29_method_69_code, exceptionTable := #[], attributes := #[] }
def k7m1 : Method := { name := "min", desc := "(II)I", sig := { parameters := [.int, .int], returnType := some .int }, accessFlags := 9, code := some k7c1 }
/-- java/lang/Math -/
def k7 : Class := { plain "java/lang/Math" (some 0) with
  accessFlags := 49
  interfaces := #[]
  cf := some (fileOf pool7 1 #[.nestMembers #[98]] #[{ accessFlags := 2, nameIndex := 7, descriptorIndex := 8, attributes := #[] }, { accessFlags := 9, nameIndex := 201, descriptorIndex := 335, attributes := #[] }] 49 4 #[] #[{ accessFlags := 25, nameIndex := 354, descriptorIndex := 339, attributes := #[] }, { accessFlags := 25, nameIndex := 358, descriptorIndex := 339, attributes := #[] }, { accessFlags := 25, nameIndex := 361, descriptorIndex := 339, attributes := #[] }, { accessFlags := 26, nameIndex := 364, descriptorIndex := 339, attributes := #[] }, { accessFlags := 26, nameIndex := 365, descriptorIndex := 339, attributes := #[] }, { accessFlags := 26, nameIndex := 172, descriptorIndex := 173, attributes := #[] }, { accessFlags := 26, nameIndex := 176, descriptorIndex := 173, attributes := #[] }, { accessFlags := 8, nameIndex := 344, descriptorIndex := 339, attributes := #[] }, { accessFlags := 8, nameIndex := 338, descriptorIndex := 339, attributes := #[] }, { accessFlags := 4120, nameIndex := 245, descriptorIndex := 246, attributes := #[] }])
  fields := #[{ name := "E", type := .double, accessFlags := 25, slot := 0, constantValue := 0 }, { name := "PI", type := .double, accessFlags := 25, slot := 1, constantValue := 0 }, { name := "TAU", type := .double, accessFlags := 25, slot := 2, constantValue := 0 }, { name := "DEGREES_TO_RADIANS", type := .double, accessFlags := 26, slot := 3, constantValue := 0 }, { name := "RADIANS_TO_DEGREES", type := .double, accessFlags := 26, slot := 4, constantValue := 0 }, { name := "negativeZeroFloatBits", type := .long, accessFlags := 26, slot := 5, constantValue := 0 }, { name := "negativeZeroDoubleBits", type := .long, accessFlags := 26, slot := 6, constantValue := 0 }, { name := "twoToTheDoubleScaleUp", type := .double, accessFlags := 8, slot := 7, constantValue := 0 }, { name := "twoToTheDoubleScaleDown", type := .double, accessFlags := 8, slot := 8, constantValue := 0 }, { name := "$assertionsDisabled", type := .boolean, accessFlags := 4120, slot := 9, constantValue := 0 }]
  methods := #[k7m0, k7m1]
  instanceTypes := #[]
  staticTypes := #[.double, .double, .double, .double, .double, .long, .long, .double, .double, .boolean]
  resolved := Array.replicate 460 none
  statics := none }

def pool8 : Array CpInfo := pool [(1, u "java/lang/Cloneable"), (0, .class_ 1), (0, u "java/lang/Object"), (0, .class_ 3)] 3

/-- java/lang/Cloneable -/
def k8 : Class := { plain "java/lang/Cloneable" (some 0) with
  accessFlags := 1537
  interfaces := #[]
  cf := some (fileOf pool8 2 #[] #[] 1537 4 #[] #[])
  fields := #[]
  methods := #[]
  instanceTypes := #[]
  staticTypes := #[]
  resolved := Array.replicate 8 none
  statics := none }

/-- the primitive byte -/
def k9 : Class := { plain "byte" none with kind := .primitive 'B', accessFlags := 0x411 }
/-- [B -/
def k10 : Class := { plain "[B" (some 0) with kind := .array 9 .byte, interfaces := #[8, 4], accessFlags := 1041 }

/-- the primitive int -/
def k11 : Class := { plain "int" none with kind := .primitive 'I', accessFlags := 0x411 }
/-- [I -/
def k12 : Class := { plain "[I" (some 0) with kind := .array 11 .int, interfaces := #[8, 4], accessFlags := 1041 }

def heap : Heap := #[{ cls := 6, slots := #[.ref 1, .ref 2, .ref 3, .null], vm := .statics 6 },
  { cls := 6, slots := #[.null, .int 0, .int 0], vm := .none },
  { cls := 6, slots := #[.null, .int 1, .int 0], vm := .none },
  { cls := 6, slots := #[.null, .int 2, .int 0], vm := .none }]
def classes : Array Class := #[k0, k1, k2, k3, k4, k5, k6, k7, k8, k9, k10, k11, k12]
def interned : List (Array UInt16 × Addr) := []
def slotsUsed : Nat := 13
def theMethod : MethodId := ⟨1, 3⟩
def args0 : Array Value := #[.int 1, .int 2]
def aboutOver (below : List Frame) : State where
  vm := { classes := classes, interned := interned.toArray }
  heap := heap
  slotsUsed := slotsUsed
  threads := #[{ frames := .invoking theMethod args0 :: below }]
def below0 : List Frame := [.native { method := ⟨0, 0⟩, args := #[] }]
def about1 : State := aboutOver below0
def p0 : Program := .bare "" "" ""
def e0 : Env := launch0.env 0 0 0
theorem w_frames : about1.frames = Frame.invoking theMethod args0 :: below0 := rfl
set_option maxRecDepth 65536 in
theorem w_args : argsFit about1.vm theMethod args0 = true := by decide +kernel
set_option maxRecDepth 65536 in
theorem w_heap : heapFits about1 = true := by decide +kernel
set_option maxRecDepth 65536 in
theorem w_runnable : about1.curStatus? = some .runnable := by decide +kernel
set_option maxRecDepth 65536 in
theorem w_alone : about1.alone = true := by decide +kernel
set_option maxRecDepth 65536 in
theorem w_named : about1.methodNamed? x = some theMethod := by decide +kernel
set_option maxRecDepth 65536 in
theorem w_hears : about1.hears theMethod below0 = true := by decide +kernel
set_option maxRecDepth 65536 in
theorem w_ripe : about1.ripe theMethod args0 below0 = true := by decide +kernel
theorem w_running : about1.status = .running := rfl
set_option maxRecDepth 65536 in
theorem w_room : about1.hasRoom e0.platform room_1 = true :=
  launch0.hasRoom_least _ room_1 (by decide +kernel) (by decide +kernel) (by decide +kernel) (by decide +kernel) (by decide +kernel) (by decide +kernel)
theorem allAtoms_all (ts : List Jvm.Cond) (a : Array Jvm.Value) (st : Jvm.State) : (allAtoms ts).before a st = ts.all (fun c => c.before a st) := by
  induction ts with
  | nil => rfl
  | cons c t ih =>
    show (Jvm.Cond.and c (allAtoms t)).before a st = _
    rw [Jvm.Cond.before_and, ih, List.all_cons]
def words1 : List Jvm.Cond := Jvm.Cond.code x code maxLocals ret :: tables_1
/-- a 'code' word, met by the world's own term for the bytes: nothing is compared byte by byte -/
theorem code_word {y : MethodName} {bytes : ByteArray} {mx : Nat} {rt : Option FieldType} {a : Array Value} {s : State} {m : MethodId} {meth : Method} {c : Code} (h1 : s.methodNamed? y = some m) (h2 : s.vm.method? m = some meth) (h3 : meth.code = some c) (h4 : c.code = bytes)
    (h5 : (c.maxLocals == mx && c.exceptionTable.isEmpty && decide (c.maxStack ≤ mostOperands) && decide (meth.sig.returnType = rt) && !meth.locks && decide (parseMethodDescriptor y.desc = some meth.sig)) = true) : (Jvm.Cond.code y bytes mx rt).before a s = true := by
  simp only [Bool.and_eq_true, beq_iff_eq, Bool.not_eq_true', decide_eq_true_eq] at h5
  obtain ⟨⟨⟨⟨⟨g1, g2⟩, g3⟩, g4⟩, g5⟩, g6⟩ := h5
  simp [Cond.before, Cond.holds, Cond.value, h1, h2, h3, h4, g1, g2, g3, g4, g5, g6]
def isCode : Jvm.Cond → Bool
  | .code _ _ _ _ => true
  | _ => false
theorem all_split {L : List Jvm.Cond} {P : Jvm.Cond → Bool} (h1 : L.all (fun c => isCode c || P c) = true) (h2 : ∀ c ∈ L.filter isCode, P c = true) : L.all P = true := by
  refine List.all_eq_true.mpr fun c hc => ?_
  have h := List.all_eq_true.mp h1 c hc
  rcases Bool.eq_false_or_eq_true (isCode c) with hi | hi
  · exact h2 c (List.mem_filter.mpr ⟨hc, hi⟩)
  · simpa [hi] using h
set_option maxRecDepth 65536 in
theorem w_c0 : (Jvm.Cond.code x code maxLocals ret).before args0 about1 = true := code_word (m := ⟨1, 3⟩) (meth := k1m3) (c := k1c3) (by decide +kernel) rfl rfl rfl (by decide +kernel)
set_option maxRecDepth 65536 in
theorem w_c1 : (Jvm.Cond.code ({ cls := "com/example/mapweft/mapweft/select/TruthAndPinLaw", name := "pick", desc := "(I)Lcom/example/mapweft/mapweft/select/Truth;" } : Jvm.MethodName) method_2_code (2 : Nat) (Option.some (Jvm.ClassFile.FieldType.object "com/example/mapweft/mapweft/select/Truth"))).before args0 about1 = true := code_word (m := ⟨1, 1⟩) (meth := k1m1) (c := k1c1) (by decide +kernel) rfl rfl rfl (by decide +kernel)
set_option maxRecDepth 65536 in
theorem w_c2 : (Jvm.Cond.code ({ cls := "com/example/mapweft/mapweft/select/Truth", name := "and", desc := "(Lcom/example/mapweft/mapweft/select/Truth;)Lcom/example/mapweft/mapweft/select/Truth;" } : Jvm.MethodName) prog_53_method_5_code (2 : Nat) (Option.some (Jvm.ClassFile.FieldType.object "com/example/mapweft/mapweft/select/Truth"))).before args0 about1 = true := code_word (m := ⟨6, 0⟩) (meth := k6m0) (c := k6c0) (by decide +kernel) rfl rfl rfl (by decide +kernel)
set_option maxRecDepth 65536 in
theorem w_c3 : (Jvm.Cond.code ({ cls := "com/example/mapweft/mapweft/select/TruthAndPinLaw", name := "rank", desc := "(Lcom/example/mapweft/mapweft/select/Truth;)I" } : Jvm.MethodName) method_3_code (1 : Nat) (Option.some Jvm.ClassFile.FieldType.int)).before args0 about1 = true := code_word (m := ⟨1, 2⟩) (meth := k1m2) (c := k1c2) (by decide +kernel) rfl rfl rfl (by decide +kernel)
set_option maxRecDepth 65536 in
theorem w_c4 : (Jvm.Cond.code ({ cls := "java/lang/Math", name := "min", desc := "(II)I" } : Jvm.MethodName) jdk_29_method_69_code (2 : Nat) (Option.some Jvm.ClassFile.FieldType.int)).before args0 about1 = true := code_word (m := ⟨7, 1⟩) (meth := k7m1) (c := k7c1) (by decide +kernel) rfl rfl rfl (by decide +kernel)
def codes1 : List Jvm.Cond := [Jvm.Cond.code x code maxLocals ret, Jvm.Cond.code ({ cls := "com/example/mapweft/mapweft/select/TruthAndPinLaw", name := "pick", desc := "(I)Lcom/example/mapweft/mapweft/select/Truth;" } : Jvm.MethodName) method_2_code (2 : Nat) (Option.some (Jvm.ClassFile.FieldType.object "com/example/mapweft/mapweft/select/Truth")), Jvm.Cond.code ({ cls := "com/example/mapweft/mapweft/select/Truth", name := "and", desc := "(Lcom/example/mapweft/mapweft/select/Truth;)Lcom/example/mapweft/mapweft/select/Truth;" } : Jvm.MethodName) prog_53_method_5_code (2 : Nat) (Option.some (Jvm.ClassFile.FieldType.object "com/example/mapweft/mapweft/select/Truth")), Jvm.Cond.code ({ cls := "com/example/mapweft/mapweft/select/TruthAndPinLaw", name := "rank", desc := "(Lcom/example/mapweft/mapweft/select/Truth;)I" } : Jvm.MethodName) method_3_code (1 : Nat) (Option.some Jvm.ClassFile.FieldType.int), Jvm.Cond.code ({ cls := "java/lang/Math", name := "min", desc := "(II)I" } : Jvm.MethodName) jdk_29_method_69_code (2 : Nat) (Option.some Jvm.ClassFile.FieldType.int)]
set_option maxRecDepth 65536 in
theorem codes_eq : words1.filter isCode = codes1 := rfl
theorem w_codes : ∀ c ∈ words1.filter isCode, c.before args0 about1 = true := by
  rw [codes_eq]
  intro c hc
  simp only [codes1, List.mem_cons, List.not_mem_nil, or_false] at hc
  rcases hc with rfl | rfl | rfl | rfl | rfl
  · exact w_c0
  · exact w_c1
  · exact w_c2
  · exact w_c3
  · exact w_c4
set_option maxRecDepth 65536 in
theorem w_t1 : (words1.take 24).all (fun c => isCode c || c.before args0 about1) = true := by decide +kernel
set_option maxRecDepth 65536 in
theorem w_t2 : (words1.drop 24).all (fun c => isCode c || c.before args0 about1) = true := by decide +kernel
theorem w_tables : (allAtoms (Jvm.Cond.code x code maxLocals ret :: tables_1)).before args0 about1 = true := by
  rw [allAtoms_all]
  show words1.all (fun c => c.before args0 about1) = true
  refine all_split ?_ w_codes
  rw [← List.take_append_drop 24 words1, List.all_append, w_t1, w_t2]
  rfl
set_option maxRecDepth 65536 in
theorem w_case : (Jvm.Cond.and given_1 narrow_1).before args0 about1 = true := by decide +kernel
theorem w_applies : (headSpec (Jvm.Cond.code x code maxLocals ret :: tables_1) room_1).applies x e0.platform about1 = true :=
  (Spec.applies_iff w_frames).mpr ⟨w_running, w_runnable, w_alone, w_named, w_hears, w_ripe, w_room, w_tables⟩
theorem atStart : AtStart classFile x code maxLocals ret World_1 tables_1 room_1 Calls_1 rest_1 Pre_1 launch0 p0 e0 about1 theMethod args0 below0 :=
  ⟨lists_1, trivial, launch0.admits_env _ _ _, launch0.least_env, fairChoices_fair.cas, fairChoices_fair.clock, w_frames, w_args, w_heap, w_applies, trivial, trivial, w_case⟩
end start1
theorem witness_1 : WitnessClaimed_1 := ⟨start1.p0, start1.e0, start1.about1, start1.theMethod, start1.args0, start1.below0, start1.atStart⟩
end Jvm.Pilot.@@N@@

import JvmDerived
import JvmDerived.Pilot.@@N@@Statement
import JvmDerived.Pilot.@@N@@Code
set_option linter.unusedVariables false
set_option linter.unusedSimpArgs false
namespace Jvm.Pilot.@@N@@
open Jvm Jvm.ClassFile Sem Op Lib Jvm.Free Jvm.Stand Jvm.LawKit Jvm.RoadKit Bundle Jvm.Pilot.@@N@@.Jvm.D
def own_Go (p : Program) (e : Env) (below : List Frame) (G : State → Outcome → Prop) (σ : State) : Prop := ∃ U o, Steps p.tables e below σ U ∧ U.status = .running ∧ Ended U below o ∧ G U o
theorem own_go {p : Program} {e : Env} {below : List Frame} {G : State → Outcome → Prop} {σ σ' : State} (h : ∀ t, Steps p.tables e below σ' t → Steps p.tables e below σ t) (k : own_Go p e below G σ') : own_Go p e below G σ := by
  obtain ⟨U, o, h1, h2⟩ := k
  exact ⟨U, o, h _ h1, h2⟩
def own_Post (s : State) (Q : Option Value → Heap → List Loc → Prop) (C S : Nat) (U : State) (o : Outcome) : Prop := ∃ v L, o = .returned v ∧ Q v U.heap L ∧ FrameEnd s o U L C S
section OwnSteps
variable {p : Program} {l : Launch} {e : Env} {R : Room} {s : State} {m : MethodId} {args : Array Value} {below : List Frame} {meth : Method} {c : Code} {T : State} {locs : List Loc} {cells slots : Nat} {G : State → Outcome → Prop} {Ls : Array Slot} {rest : List Value} {pc : Nat}
theorem own_iloadN (X : Stand p l e R s m args below meth c T locs cells slots) (hx : p.tables.exec = Jvm.exec) {i : Fin 4} {v : Int32} (hd : decode c.code pc = .ok (.iload_n i, 1)) (hl : Ls[i.val]? = some (.val (.int v))) (pc' : Nat) (hp : pc + 1 = pc') (k : own_Go p e below G (T.setTop (mkF m pc' Ls (.int v :: rest)))) : own_Go p e below G (T.setTop (mkF m pc Ls (rest))) := by
  subst hp; exact own_go (fun t q => XS.iloadN X.here hx rfl hd hl q) k
theorem own_iload (X : Stand p l e R s m args below meth c T locs cells slots) (hx : p.tables.exec = Jvm.exec) {i : Nat} {v : Int32} (hd : decode c.code pc = .ok (.iload i, 2)) (hl : Ls[i]? = some (.val (.int v))) (pc' : Nat) (hp : pc + 2 = pc') (k : own_Go p e below G (T.setTop (mkF m pc' Ls (.int v :: rest)))) : own_Go p e below G (T.setTop (mkF m pc Ls (rest))) := by
  subst hp; exact own_go (fun t q => XS.iload X.here hx rfl hd hl q) k
theorem own_aloadN (X : Stand p l e R s m args below meth c T locs cells slots) (hx : p.tables.exec = Jvm.exec) {i : Fin 4} {v : Value} (hd : decode c.code pc = .ok (.aload_n i, 1)) (hl : Ls[i.val]? = some (.val v)) (hv : v.isRef = true) (pc' : Nat) (hp : pc + 1 = pc') (k : own_Go p e below G (T.setTop (mkF m pc' Ls (v :: rest)))) : own_Go p e below G (T.setTop (mkF m pc Ls (rest))) := by
  subst hp; exact own_go (fun t q => XS.aloadN X.here hx rfl hd hl hv q) k
theorem own_aload (X : Stand p l e R s m args below meth c T locs cells slots) (hx : p.tables.exec = Jvm.exec) {i : Nat} {v : Value} (hd : decode c.code pc = .ok (.aload i, 2)) (hl : Ls[i]? = some (.val v)) (hv : v.isRef = true) (pc' : Nat) (hp : pc + 2 = pc') (k : own_Go p e below G (T.setTop (mkF m pc' Ls (v :: rest)))) : own_Go p e below G (T.setTop (mkF m pc Ls (rest))) := by
  subst hp; exact own_go (fun t q => XS.aload X.here hx rfl hd hl hv q) k
theorem own_istoreN (X : Stand p l e R s m args below meth c T locs cells slots) (hx : p.tables.exec = Jvm.exec) {i : Fin 4} {v : Int32} (hd : decode c.code pc = .ok (.istore_n i, 1)) (l' : Array Slot) (hl : storeLocals Ls i.val (.int v) = some l') (pc' : Nat) (hp : pc + 1 = pc') (k : own_Go p e below G (T.setTop (mkF m pc' l' (rest)))) : own_Go p e below G (T.setTop (mkF m pc Ls (.int v :: rest))) := by
  subst hp; exact own_go (fun t q => XS.istoreN X.here hx rfl hd rfl hl q) k
theorem own_istore (X : Stand p l e R s m args below meth c T locs cells slots) (hx : p.tables.exec = Jvm.exec) {i : Nat} {v : Int32} (hd : decode c.code pc = .ok (.istore i, 2)) (l' : Array Slot) (hl : storeLocals Ls i (.int v) = some l') (pc' : Nat) (hp : pc + 2 = pc') (k : own_Go p e below G (T.setTop (mkF m pc' l' (rest)))) : own_Go p e below G (T.setTop (mkF m pc Ls (.int v :: rest))) := by
  subst hp; exact own_go (fun t q => XS.istore X.here hx rfl hd rfl hl q) k
theorem own_astoreN (X : Stand p l e R s m args below meth c T locs cells slots) (hx : p.tables.exec = Jvm.exec) {i : Fin 4} {v : Value} (hd : decode c.code pc = .ok (.astore_n i, 1)) (hv : v.isRef = true) (l' : Array Slot) (hl : storeLocals Ls i.val v = some l') (pc' : Nat) (hp : pc + 1 = pc') (k : own_Go p e below G (T.setTop (mkF m pc' l' (rest)))) : own_Go p e below G (T.setTop (mkF m pc Ls (v :: rest))) := by
  subst hp; exact own_go (fun t q => XS.astoreN X.here hx rfl hd rfl hv hl q) k
theorem own_astore (X : Stand p l e R s m args below meth c T locs cells slots) (hx : p.tables.exec = Jvm.exec) {i : Nat} {v : Value} (hd : decode c.code pc = .ok (.astore i, 2)) (hv : v.isRef = true) (l' : Array Slot) (hl : storeLocals Ls i v = some l') (pc' : Nat) (hp : pc + 2 = pc') (k : own_Go p e below G (T.setTop (mkF m pc' l' (rest)))) : own_Go p e below G (T.setTop (mkF m pc Ls (v :: rest))) := by
  subst hp; exact own_go (fun t q => XS.astore X.here hx rfl hd rfl hv hl q) k
theorem own_iinc (X : Stand p l e R s m args below meth c T locs cells slots) (hx : p.tables.exec = Jvm.exec) {i : Nat} {z : Int} {v : Int32} (hd : decode c.code pc = .ok (.iinc i z, 3)) (hl : Ls[i]? = some (.val (.int v))) (l' : Array Slot) (hl' : storeLocals Ls i (.int (v + Int32.ofInt z)) = some l') (pc' : Nat) (hp : pc + 3 = pc') (k : own_Go p e below G (T.setTop (mkF m pc' l' (rest)))) : own_Go p e below G (T.setTop (mkF m pc Ls (rest))) := by
  subst hp; exact own_go (fun t q => XS.iinc X.here hx rfl hd hl hl' q) k
theorem own_iconst (X : Stand p l e R s m args below meth c T locs cells slots) (hx : p.tables.exec = Jvm.exec) {i : Int} (hd : decode c.code pc = .ok (.iconst i, 1)) (v : Int32) (hv : v = Int32.ofInt i) (pc' : Nat) (hp : pc + 1 = pc') (k : own_Go p e below G (T.setTop (mkF m pc' Ls (.int v :: rest)))) : own_Go p e below G (T.setTop (mkF m pc Ls (rest))) := by
  subst hp; exact own_go (fun t q => XS.iconst X.here hx rfl hd (hv ▸ q)) k
theorem own_bipush (X : Stand p l e R s m args below meth c T locs cells slots) (hx : p.tables.exec = Jvm.exec) {i : Int} (hd : decode c.code pc = .ok (.bipush i, 2)) (v : Int32) (hv : v = (Int8.ofInt i).toInt32) (pc' : Nat) (hp : pc + 2 = pc') (k : own_Go p e below G (T.setTop (mkF m pc' Ls (.int v :: rest)))) : own_Go p e below G (T.setTop (mkF m pc Ls (rest))) := by
  subst hp; exact own_go (fun t q => XS.bipush X.here hx rfl hd (hv ▸ q)) k
theorem own_lconst (X : Stand p l e R s m args below meth c T locs cells slots) (hx : p.tables.exec = Jvm.exec) {i : Fin 2} (hd : decode c.code pc = .ok (.lconst i, 1)) (v : Int64) (hv : v = Int64.ofNat i) (pc' : Nat) (hp : pc + 1 = pc') (k : own_Go p e below G (T.setTop (mkF m pc' Ls (.long v :: rest)))) : own_Go p e below G (T.setTop (mkF m pc Ls (rest))) := by
  subst hp; exact own_go (fun t q => XS.lconst X.here hx rfl hd (hv ▸ q)) k
theorem own_ldcInt (X : Stand p l e R s m args below meth c T locs cells slots) (hx : p.tables.exec = Jvm.exec) {own : String} {index : Nat} {v : Int32} (hown : s.vm.findClass own = some m.cls) (hc : (Cond.constant own index v).before args s = true) (hd : decode c.code pc = .ok (.ldc index, 2)) (pc' : Nat) (hp : pc + 2 = pc') (k : own_Go p e below G (T.setTop (mkF m pc' Ls (.int v :: rest)))) : own_Go p e below G (T.setTop (mkF m pc Ls rest)) := by
  subst hp; exact own_go (X.ldcInt hx hown hc (g := mkF m pc Ls rest) rfl hd) k
theorem own_ldc2Long (X : Stand p l e R s m args below meth c T locs cells slots) (hx : p.tables.exec = Jvm.exec) {own : String} {index : Nat} {v : Int64} (hown : s.vm.findClass own = some m.cls) (hc : (Cond.constantLong own index v).before args s = true) (hd : decode c.code pc = .ok (.ldc2_w index, 3)) (pc' : Nat) (hp : pc + 3 = pc') (k : own_Go p e below G (T.setTop (mkF m pc' Ls (.long v :: rest)))) : own_Go p e below G (T.setTop (mkF m pc Ls rest)) := by
  subst hp; exact own_go (X.ldc2Long hx hown hc (g := mkF m pc Ls rest) rfl hd) k
theorem own_iadd (X : Stand p l e R s m args below meth c T locs cells slots) (hx : p.tables.exec = Jvm.exec) {x y : Int32} (hd : decode c.code pc = .ok (.iadd, 1)) (pc' : Nat) (hp : pc + 1 = pc') (k : own_Go p e below G (T.setTop (mkF m pc' Ls (.int (x + y) :: rest)))) : own_Go p e below G (T.setTop (mkF m pc Ls (.int y :: .int x :: rest))) := by
  subst hp; exact own_go (fun t q => XS.iadd X.here hx rfl hd rfl q) k
theorem own_isub (X : Stand p l e R s m args below meth c T locs cells slots) (hx : p.tables.exec = Jvm.exec) {x y : Int32} (hd : decode c.code pc = .ok (.isub, 1)) (pc' : Nat) (hp : pc + 1 = pc') (k : own_Go p e below G (T.setTop (mkF m pc' Ls (.int (x - y) :: rest)))) : own_Go p e below G (T.setTop (mkF m pc Ls (.int y :: .int x :: rest))) := by
  subst hp; exact own_go (fun t q => XS.isub X.here hx rfl hd rfl q) k
theorem own_iand (X : Stand p l e R s m args below meth c T locs cells slots) (hx : p.tables.exec = Jvm.exec) {x y : Int32} (hd : decode c.code pc = .ok (.iand, 1)) (pc' : Nat) (hp : pc + 1 = pc') (k : own_Go p e below G (T.setTop (mkF m pc' Ls (.int (x &&& y) :: rest)))) : own_Go p e below G (T.setTop (mkF m pc Ls (.int y :: .int x :: rest))) := by
  subst hp; exact own_go (fun t q => XS.iand X.here hx rfl hd rfl q) k
theorem own_irem (X : Stand p l e R s m args below meth c T locs cells slots) (hx : p.tables.exec = Jvm.exec) {x y : Int32} (hd : decode c.code pc = .ok (.irem, 1)) (hy : y ≠ 0) (pc' : Nat) (hp : pc + 1 = pc') (k : own_Go p e below G (T.setTop (mkF m pc' Ls (.int (x % y) :: rest)))) : own_Go p e below G (T.setTop (mkF m pc Ls (.int y :: .int x :: rest))) := by
  subst hp; exact own_go (fun t q => iremM X hx rfl hd rfl hy q) k
theorem own_iushr (X : Stand p l e R s m args below meth c T locs cells slots) (hx : p.tables.exec = Jvm.exec) {x y : Int32} (hd : decode c.code pc = .ok (.iushr, 1)) (pc' : Nat) (hp : pc + 1 = pc') (k : own_Go p e below G (T.setTop (mkF m pc' Ls (.int ((x.toUInt32 >>> (y &&& 31).toUInt32).toInt32) :: rest)))) : own_Go p e below G (T.setTop (mkF m pc Ls (.int y :: .int x :: rest))) := by
  subst hp; exact own_go (fun t q => XS.iushr X.here hx rfl hd rfl q) k
theorem own_dup (X : Stand p l e R s m args below meth c T locs cells slots) (hx : p.tables.exec = Jvm.exec) {x : Value} (hd : decode c.code pc = .ok (.dup, 1)) (hc : x.category = 1) (pc' : Nat) (hp : pc + 1 = pc') (k : own_Go p e below G (T.setTop (mkF m pc' Ls (x :: x :: rest)))) : own_Go p e below G (T.setTop (mkF m pc Ls (x :: rest))) := by
  subst hp; exact own_go (fun t q => XS.dup X.here hx rfl hd rfl hc q) k
theorem own_goto (X : Stand p l e R s m args below meth c T locs cells slots) (hx : p.tables.exec = Jvm.exec) {o : Int} (hd : decode c.code pc = .ok (.goto o, 3)) (pc' : Nat) (hp : 0 ≤ (pc : Int) + o ∧ ((pc : Int) + o).toNat = pc') (k : own_Go p e below G (T.setTop (mkF m pc' Ls rest))) : own_Go p e below G (T.setTop (mkF m pc Ls rest)) :=
  own_go (fun t q => XS.goto X.here hx rfl (pc0 := pc) (pc' := pc') rfl hd hp.1 hp.2 q) k
theorem own_ifY (X : Stand p l e R s m args below meth c T locs cells slots) (hx : p.tables.exec = Jvm.exec) {o : Int} {cd : ClassFile.Cond} {x : Int32} (hd : decode c.code pc = .ok (.ifCond cd o, 3)) (hc : ifCond.holds cd x = true) (pc' : Nat) (hp : 0 ≤ (pc : Int) + o ∧ ((pc : Int) + o).toNat = pc') (k : own_Go p e below G (T.setTop (mkF m pc' Ls rest))) : own_Go p e below G (T.setTop (mkF m pc Ls (.int x :: rest))) :=
  own_go (fun t q => XS.ifYes X.here hx rfl (pc0 := pc) (pc' := pc') rfl hd rfl hc hp.1 hp.2 q) k
theorem own_ifN (X : Stand p l e R s m args below meth c T locs cells slots) (hx : p.tables.exec = Jvm.exec) {o : Int} {cd : ClassFile.Cond} {x : Int32} (hd : decode c.code pc = .ok (.ifCond cd o, 3)) (hc : ifCond.holds cd x = false) (pc' : Nat) (hp : pc + 3 = pc') (k : own_Go p e below G (T.setTop (mkF m pc' Ls (rest)))) : own_Go p e below G (T.setTop (mkF m pc Ls (.int x :: rest))) := by
  subst hp; exact own_go (fun t q => XS.ifNo X.here hx rfl hd rfl hc q) k
theorem own_icmpY (X : Stand p l e R s m args below meth c T locs cells slots) (hx : p.tables.exec = Jvm.exec) {o : Int} {cd : ClassFile.Cond} {x y : Int32} (hd : decode c.code pc = .ok (.if_icmp cd o, 3)) (hc : if_icmp.holds cd x y = true) (pc' : Nat) (hp : 0 ≤ (pc : Int) + o ∧ ((pc : Int) + o).toNat = pc') (k : own_Go p e below G (T.setTop (mkF m pc' Ls rest))) : own_Go p e below G (T.setTop (mkF m pc Ls (.int y :: .int x :: rest))) :=
  own_go (fun t q => XS.icmpYes X.here hx rfl (pc0 := pc) (pc' := pc') rfl hd rfl hc hp.1 hp.2 q) k
theorem own_icmpN (X : Stand p l e R s m args below meth c T locs cells slots) (hx : p.tables.exec = Jvm.exec) {o : Int} {cd : ClassFile.Cond} {x y : Int32} (hd : decode c.code pc = .ok (.if_icmp cd o, 3)) (hc : if_icmp.holds cd x y = false) (pc' : Nat) (hp : pc + 3 = pc') (k : own_Go p e below G (T.setTop (mkF m pc' Ls (rest)))) : own_Go p e below G (T.setTop (mkF m pc Ls (.int y :: .int x :: rest))) := by
  subst hp; exact own_go (fun t q => XS.icmpNo X.here hx rfl hd rfl hc q) k
theorem own_ret {f : JFrame} {Q : Option Value → Heap → List Loc → Prop} {C S : Nat} (X : Stand p l e R s m args below meth c T locs cells slots) (hlk : meth.locks = false) (hG : own_Post s Q C S = G) {v : Option Value} (hv : meth.sig.returnType = none → v = none)
    (st : ∀ fs, (∀ (f : JFrame) (acts : List Action), f.method = m → f.locked = none → f.entered = [] → (doReturn e (T.setTop f) acts v).1 = T.setFrames fs) → Steps p.tables e below (T.setTop f) (T.setFrames fs)) (hc : cells ≤ C) (hs : slots ≤ S) (hq : Q v T.heap locs) : own_Go p e below G (T.setTop f) := by
  subst hG
  obtain ⟨fs, hr, hrun, hended, hW, hsame⟩ := X.leave (v := v) hv hlk
  exact ⟨_, _, st fs hr, hrun, hended, _, _, rfl, hq, ⟨_, rfl⟩, hW, hsame.mono hc hs⟩
theorem own_ireturn {z : Int32} {Q : Option Value → Heap → List Loc → Prop} {C S : Nat} (X : Stand p l e R s m args below meth c T locs cells slots) (hx : p.tables.exec = Jvm.exec) (hlk : meth.locks = false) (hG : own_Post s Q C S = G) (hret : meth.sig.returnType = some .int) (hd : decode c.code pc = .ok (.ireturn, 1)) (hc : cells ≤ C) (hs : slots ≤ S) (hq : Q (some (.int z)) T.heap locs) : own_Go p e below G (T.setTop (mkF m pc Ls (.int z :: rest))) :=
  own_ret X hlk hG (fun h => by rw [hret] at h; cases h) (fun fs hr => retOut X hx hret rfl (Or.inl ⟨rfl, Or.inl rfl, _, rfl⟩) hd hr) hc hs hq
theorem own_nreturn {z : Int32} {ty : FieldType} {Q : Option Value → Heap → List Loc → Prop} {C S : Nat} (X : Stand p l e R s m args below meth c T locs cells slots) (hx : p.tables.exec = Jvm.exec) (hlk : meth.locks = false) (hG : own_Post s Q C S = G) (hret : meth.sig.returnType = some ty) (ht : ty = .boolean ∨ ty = .byte ∨ ty = .char ∨ ty = .short) (hd : decode c.code pc = .ok (.ireturn, 1)) (hc : cells ≤ C) (hs : slots ≤ S) (hq : Q (some (.int (nar ty z))) T.heap locs) : own_Go p e below G (T.setTop (mkF m pc Ls (.int z :: rest))) :=
  own_ret X hlk hG (fun h => by rw [hret] at h; cases h) (fun fs hr => retN X hx hret ht hd hr) hc hs hq
theorem own_areturn {w : Value} {ty : FieldType} {Q : Option Value → Heap → List Loc → Prop} {C S : Nat} (X : Stand p l e R s m args below meth c T locs cells slots) (hx : p.tables.exec = Jvm.exec) (hlk : meth.locks = false) (hG : own_Post s Q C S = G) (hret : meth.sig.returnType = some ty) (ht : ty.isReference = true) (hn : narrow ty w = w) (hw : w.isRef = true) (hd : decode c.code pc = .ok (.areturn, 1)) (hc : cells ≤ C) (hs : slots ≤ S) (hq : Q (some w) T.heap locs) : own_Go p e below G (T.setTop (mkF m pc Ls (w :: rest))) :=
  own_ret X hlk hG (fun h => by rw [hret] at h; cases h) (fun fs hr => retOut X hx hret hn (Or.inr (Or.inr (Or.inr (Or.inr ⟨rfl, ht, hw⟩)))) hd hr) hc hs hq
variable {Z : State} {a0 : Array Value} {h : Heap}
theorem own_callS {bytes : ByteArray} {maxL : Nat} {ret : Option FieldType} {rm : Room} {y : MethodName} {argsL : List Value} {Q : Option Value → Heap → List Loc → Prop} (X : Stand p l e R s m args below meth c T locs cells slots) (hx : p.tables.exec = Jvm.exec) (hZ : Z.Warmed39 s.vm) {own : String} {index : Nat} (hown : s.vm.findClass own = some m.cls) (w1 : (Cond.methodLink own index y).before a0 Z = true) (w2 : (Cond.static y).before a0 Z = true) (w3 : (Cond.initialized y.cls).before a0 Z = true) (w4 : (Cond.code y bytes maxL ret).before a0 Z = true) (hy : y.cls ≠ "java/lang/invoke/MethodHandle" ∧ y.cls ≠ "java/lang/invoke/VarHandle") (eT : T.heap = h)
    (hM : MetFree l y (head1 [Cond.code y bytes maxL ret] rm) (fun a U => a = argsL.toArray ∧ Z.Warmed39 U.vm ∧ U.heap = h) (fun _ _ _ _ _ => True) (fun _ U o U' => ∃ v L, o = .returned v ∧ Q v U'.heap L ∧ FrameEnd U o U' L rm.cells rm.slots))
    (hsize : Ls.size = c.maxLocals) {ps : List FieldType} {rt : Option FieldType} (hdesc : parseMethodDescriptor y.desc = some ⟨ps, rt⟩) (hlen : argsL.length = ps.length) {st : List Value} (hst : st = argsL.reverse ++ rest) (hd : decode c.code pc = .ok (.invokestatic index, 3)) (W : Nat) (hW : (rest.map fun v => v.category).sum ≤ W) (hf : rm.frames + 1 ≤ R.frames) (hl : W + (maxL + 11) + rm.locals ≤ R.locals) (hc : cells + rm.cells ≤ R.cells) (hs : slots + rm.slots ≤ R.slots) (pc' : Nat) (hp : pc + 3 = pc')
    (k : ∀ (T' : State) (L : List Loc) (v : Option Value), Stand p l e R s m args below meth c T' (locs ++ L) (cells + rm.cells) (slots + rm.slots) → Q v T'.heap L → own_Go p e below G (T'.setTop (mkF m pc' Ls (v.toList ++ rest)))) : own_Go p e below G (T.setTop (mkF m pc Ls st)) := by
  subst hp hst
  obtain ⟨v, _, ⟨T', L', k', n'⟩, -, X', ⟨Lc, hQ, l', y', z'⟩, st⟩ := Jvm.LawKit.callS X hx hown (mvT hZ w1) (mvT hZ w2) (mvT hZ w3) (mvT hZ w4) hy (backOf (W := W) hM hZ w4 w3 hf hl) (g := mkF m pc Ls (argsL.reverse ++ rest)) rfl hsize (argsL := argsL) (rest := rest) (lenOf hdesc hlen) rfl (by show 2 * 0 + _ ≤ W; rw [Nat.mul_zero, Nat.zero_add]; exact hW) hd (fun _ _ => ⟨rfl, eT, hc, hs⟩)
  dsimp only [Pt.U, Pt.locs, Pt.cells, Pt.slots] at X' l' y' z' st hQ
  subst l' y' z'
  exact own_go st (k T' Lc v X' hQ)
def own_A {α : Type} (ty : FieldType) (f : α → Value) (Z : State) (h : Heap) (a : Addr) (L : List α) : Prop := ∃ cl : Cell, Arr Z h a cl ty ∧ cl.slots = (L.map f).toArray ∧ L.length < 2147483648
section OwnArr
variable {α : Type} {ty : FieldType} {f : α → Value} {h' : Heap} {a b : Addr} {L : List α}
theorem own_A.lt (F : own_A ty f Z h a L) : a < h.size := by obtain ⟨cl, A, -⟩ := F; exact A.lt
theorem own_A.ext (F : own_A ty f Z h a L) (E : Ext h h') : own_A ty f Z h' a L := by obtain ⟨cl, A, r⟩ := F; exact ⟨cl, A.ext E, r⟩
theorem own_A.other {sl : Nat} {v : Value} (F : own_A ty f Z h b L) (W : Wr h h' a sl v) (q : b ≠ a) : own_A ty f Z h' b L := by obtain ⟨cl, A, r⟩ := F; exact ⟨cl, A.other W q, r⟩
theorem own_A.keep {ws : List Addr} (F : own_A ty f Z h a L) (K : Keep h h' ws) (q : a ∉ ws) : own_A ty f Z h' a L := by obtain ⟨cl, A, r⟩ := F; exact ⟨cl, ⟨K.2.1 a cl A.1 q, A.2⟩, r⟩
theorem own_A.len (F : own_A ty f Z h a L) : L.length < 2147483648 := by obtain ⟨cl, A, -, r⟩ := F; exact r
theorem own_A.set {i : Nat} {x : α} (F : own_A ty f Z h a L) (W : Wr h h' a i (f x)) : own_A ty f Z h' a (L.set i x) := by
  obtain ⟨cl, A, r, r'⟩ := F
  refine ⟨_, A.same W, ?_, by simpa using r'⟩
  show cl.slots.setIfInBounds i (f x) = _
  rw [r, List.map_set]; simp
theorem own_idx {j : Int32} {i n : Nat} (hj : j = Int32.ofNat i) (hi : i < n) (hn : n < 2147483648) : ¬ (j < 0 ∨ n ≤ j.toNatClampNeg) ∧ j.toNatClampNeg = i := by
  subst hj
  have q : (Int32.ofNat i).toInt = i := Int32.toInt_ofNat_of_lt (by omega)
  have q2 : (Int32.ofNat i).toNatClampNeg = i := by rw [Int32.toNatClampNeg, q]; rfl
  refine ⟨fun z => z.elim (fun z => ?_) fun z => by omega, q2⟩
  rw [Int32.lt_iff_toInt_lt, q, show (0 : Int32).toInt = 0 from rfl] at z; omega
theorem own_A.new {k : ClassId} {n : Int32} {d : α} (hd : f d = defaultValue ty) (A : Arr Z h a (newA k ty n) ty) (i : Nat) (hn : n = Int32.ofNat i) (hi : i < 2147483648) : own_A ty f Z h a (List.replicate i d) := by
  refine ⟨_, A, ?_, by simpa using hi⟩
  have q := (own_idx hn (Nat.lt_succ_self i) (n := i + 1))
  have q2 : n.toNatClampNeg = i := by
    subst hn
    rw [Int32.toNatClampNeg, Int32.toInt_ofNat_of_lt (by omega)]; rfl
  simp [newA, q2, hd]
end OwnArr
theorem own_iaload (X : Stand p l e R s m args below meth c T locs cells slots) (hx : p.tables.exec = Jvm.exec) (hZ : Z.Warmed39 s.vm) (eT : T.heap = h) {a : Addr} {L : List Int32} (V : own_A .int Value.int Z h a L) {j : Int32} (i : Nat) (hj : j = Int32.ofNat i) (v : Int32) (hv : L[i]? = some v) (hd : decode c.code pc = .ok (.iaload, 1)) (pc' : Nat) (hp : pc + 1 = pc') (k : own_Go p e below G (T.setTop (mkF m pc' Ls (Value.int v :: rest)))) : own_Go p e below G (T.setTop (mkF m pc Ls (.int j :: .ref a :: rest))) := by
  subst hp
  obtain ⟨cl, A, r, r'⟩ := V
  have hi : i < L.length := (List.getElem?_eq_some_iff.mp hv).1
  obtain ⟨q1, q2⟩ := own_idx hj hi r'
  exact own_go (X.iaload hx (j := j) (v := Value.int v) (by rw [eT]; exact A.1) (State.isArrayOf_alike hZ.alike A.2.1) A.2.2 (by rw [r]; simpa using q1) (by rw [r, q2]; simp [hv]) (g := mkF m pc Ls (.int j :: .ref a :: rest)) rfl rfl hd) k
theorem own_iastore (X : Stand p l e R s m args below meth c T locs cells slots) (hx : p.tables.exec = Jvm.exec) (hZ : Z.Warmed39 s.vm) (eT : T.heap = h) {a : Addr} {L : List Int32} (V : own_A .int Value.int Z h a L) {j : Int32} {x : Int32} (i : Nat) (hj : j = Int32.ofNat i) (hi : i < L.length) (hd : decode c.code pc = .ok (.iastore, 1)) (pc' : Nat) (hp : pc + 1 = pc')
    (k : ∀ (T' : State) (h' : Heap), Stand p l e R s m args below meth c T' (locs ++ [⟨a, j.toNatClampNeg⟩]) cells slots → T'.heap = h' → Wr h h' a i (Value.int x) → own_A .int Value.int Z h' a (L.set i x) → own_Go p e below G (T'.setTop (mkF m pc' Ls rest))) : own_Go p e below G (T.setTop (mkF m pc Ls (Value.int x :: .int j :: .ref a :: rest))) := by
  subst hp
  have V' := V
  obtain ⟨cl, A, r, r'⟩ := V'
  obtain ⟨q1, q2⟩ := own_idx hj hi r'
  obtain ⟨T', h', X', e', W, st⟩ := stI X hx hZ eT A (j := j) (x := x) (by rw [r]; simpa using q1) (g := mkF m pc Ls (Value.int x :: .int j :: .ref a :: rest)) rfl rfl hd
  rw [q2] at W
  exact own_go st (k T' h' X' e' W (V.set W))
theorem own_lastore (X : Stand p l e R s m args below meth c T locs cells slots) (hx : p.tables.exec = Jvm.exec) (hZ : Z.Warmed39 s.vm) (eT : T.heap = h) {a : Addr} {L : List Int64} (V : own_A .long Value.long Z h a L) {j : Int32} {x : Int64} (i : Nat) (hj : j = Int32.ofNat i) (hi : i < L.length) (hd : decode c.code pc = .ok (.lastore, 1)) (pc' : Nat) (hp : pc + 1 = pc')
    (k : ∀ (T' : State) (h' : Heap), Stand p l e R s m args below meth c T' (locs ++ [⟨a, j.toNatClampNeg⟩]) cells slots → T'.heap = h' → Wr h h' a i (Value.long x) → own_A .long Value.long Z h' a (L.set i x) → own_Go p e below G (T'.setTop (mkF m pc' Ls rest))) : own_Go p e below G (T.setTop (mkF m pc Ls (Value.long x :: .int j :: .ref a :: rest))) := by
  subst hp
  have V' := V
  obtain ⟨cl, A, r, r'⟩ := V'
  obtain ⟨q1, q2⟩ := own_idx hj hi r'
  obtain ⟨T', h', X', e', W, st⟩ := stJ X hx hZ eT A (j := j) (x := x) (by rw [r]; simpa using q1) (g := mkF m pc Ls (Value.long x :: .int j :: .ref a :: rest)) rfl rfl hd
  rw [q2] at W
  exact own_go st (k T' h' X' e' W (V.set W))
theorem own_arraylength {α : Type} {ty : FieldType} {f : α → Value} {L : List α} (X : Stand p l e R s m args below meth c T locs cells slots) (hx : p.tables.exec = Jvm.exec) (hZ : Z.Warmed39 s.vm) (eT : T.heap = h) {a : Addr} (V : own_A ty f Z h a L) (hd : decode c.code pc = .ok (.arraylength, 1)) (pc' : Nat) (hp : pc + 1 = pc') (k : own_Go p e below G (T.setTop (mkF m pc' Ls (.int (Int32.ofNat L.length) :: rest)))) : own_Go p e below G (T.setTop (mkF m pc Ls (.ref a :: rest))) := by
  subst hp
  obtain ⟨cl, A, r, r'⟩ := V
  refine own_go (X.arraylength hx (cell := cl) (by rw [eT]; exact A.1) (State.isArrayOf_alike hZ.alike A.2.1) (g := mkF m pc Ls (.ref a :: rest)) rfl (rest := rest) rfl hd) ?_
  rw [show cl.slots.size.toInt32 = Int32.ofNat L.length by rw [r]; simp]
  exact k
theorem own_newI (X : Stand p l e R s m args below meth c T locs cells slots) (hx : p.tables.exec = Jvm.exec) (hZ : Z.Warmed39 s.vm) (w : (Cond.arrayClass .int).before a0 Z = true) (eT : T.heap = h) {n : Int32} (hd : decode c.code pc = .ok (.newarray .int, 2)) (i : Nat) (hn : n = Int32.ofNat i) (cap : Nat) (hcap : i ≤ cap) (hb : cap * 8 ≤ 536870912) (hc : cells + 1 ≤ R.cells) (hl : slots + cap ≤ R.slots) (pc' : Nat) (hp : pc + 2 = pc')
    (k : ∀ (T' : State) (h' : Heap) (a' : Addr), a' = h.size → Stand p l e R s m args below meth c T' locs (cells + 1) (slots + cap) → T'.heap = h' → Ext h h' → own_A .int Value.int Z h' a' (List.replicate i (0 : Int32)) → own_Go p e below G (T'.setTop (mkF m pc' Ls (.ref a' :: rest)))) : own_Go p e below G (T.setTop (mkF m pc Ls (.int n :: rest))) := by
  subst hp
  have hi : i < 2147483648 := by omega
  obtain ⟨q1, q2⟩ := own_idx hn (Nat.lt_succ_self i) (n := i + 1) (by omega)
  obtain ⟨T', h', cA, X', e', E', A', st⟩ := newP X hx hZ (aty := .int) w eT (g := mkF m pc Ls (.int n :: rest)) rfl hd (n := n) (rest := rest) rfl (fun z => q1 (Or.inl z)) (cap := cap) (by rw [q2]; exact hcap) hb hc hl
  exact own_go st (k T' h' _ rfl X' e' E' (own_A.new (f := Value.int) (d := 0) rfl A' i hn hi))
theorem own_newJ (X : Stand p l e R s m args below meth c T locs cells slots) (hx : p.tables.exec = Jvm.exec) (hZ : Z.Warmed39 s.vm) (w : (Cond.arrayClass .long).before a0 Z = true) (eT : T.heap = h) {n : Int32} (hd : decode c.code pc = .ok (.newarray .long, 2)) (i : Nat) (hn : n = Int32.ofNat i) (cap : Nat) (hcap : i ≤ cap) (hb : cap * 8 ≤ 536870912) (hc : cells + 1 ≤ R.cells) (hl : slots + cap ≤ R.slots) (pc' : Nat) (hp : pc + 2 = pc')
    (k : ∀ (T' : State) (h' : Heap) (a' : Addr), a' = h.size → Stand p l e R s m args below meth c T' locs (cells + 1) (slots + cap) → T'.heap = h' → Ext h h' → own_A .long Value.long Z h' a' (List.replicate i (0 : Int64)) → own_Go p e below G (T'.setTop (mkF m pc' Ls (.ref a' :: rest)))) : own_Go p e below G (T.setTop (mkF m pc Ls (.int n :: rest))) := by
  subst hp
  have hi : i < 2147483648 := by omega
  obtain ⟨q1, q2⟩ := own_idx hn (Nat.lt_succ_self i) (n := i + 1) (by omega)
  obtain ⟨T', h', cA, X', e', E', A', st⟩ := newP X hx hZ (aty := .long) w eT (g := mkF m pc Ls (.int n :: rest)) rfl hd (n := n) (rest := rest) rfl (fun z => q1 (Or.inl z)) (cap := cap) (by rw [q2]; exact hcap) hb hc hl
  exact own_go st (k T' h' _ rfl X' e' E' (own_A.new (f := Value.long) (d := 0) rfl A' i hn hi))
end OwnSteps
theorem own_w {Z : State} {a0 : Array Value} (hw : ∀ d ∈ tables_1, d.before a0 Z = true) (i : Nat) {d : Cond} (h : tables_1[i]? = some d) : d.before a0 Z = true := hw d (List.mem_of_getElem? h)
theorem own_isl {args : Array Value} {first s : State} {o : Option Outcome} {idx : List Nat} {t : Term} (h : (Cond.isLong t).value args first o s idx = some true) : ∃ x, t.eval args first o idx s = some (.long x) := isL_v h
theorem d1_0 : decode jdk_29_method_65_code 0 = .ok (.iload_n 0, 1) := by decide +kernel
theorem d1_1 : decode jdk_29_method_65_code 1 = .ok (.iload_n 1, 1) := by decide +kernel
theorem d1_2 : decode jdk_29_method_65_code 2 = .ok (.if_icmp .lt 7, 3) := by decide +kernel
theorem d1_5 : decode jdk_29_method_65_code 5 = .ok (.iload_n 0, 1) := by decide +kernel
theorem d1_6 : decode jdk_29_method_65_code 6 = .ok (.goto 4, 3) := by decide +kernel
theorem d1_9 : decode jdk_29_method_65_code 9 = .ok (.iload_n 1, 1) := by decide +kernel
theorem d1_10 : decode jdk_29_method_65_code 10 = .ok (.ireturn, 1) := by decide +kernel
theorem d2_0 : decode method_3_code 0 = .ok (.iload_n 0, 1) := by decide +kernel
theorem d2_1 : decode method_3_code 1 = .ok (.ifCond .ne 7, 3) := by decide +kernel
theorem d2_4 : decode method_3_code 4 = .ok (.iconst 0, 1) := by decide +kernel
theorem d2_5 : decode method_3_code 5 = .ok (.newarray .long, 2) := by decide +kernel
theorem d2_7 : decode method_3_code 7 = .ok (.areturn, 1) := by decide +kernel
theorem d2_8 : decode method_3_code 8 = .ok (.iload_n 0, 1) := by decide +kernel
theorem d2_9 : decode method_3_code 9 = .ok (.iconst 1, 1) := by decide +kernel
theorem d2_10 : decode method_3_code 10 = .ok (.if_icmp .ne 11, 3) := by decide +kernel
theorem d2_13 : decode method_3_code 13 = .ok (.iconst 1, 1) := by decide +kernel
theorem d2_14 : decode method_3_code 14 = .ok (.newarray .long, 2) := by decide +kernel
theorem d2_16 : decode method_3_code 16 = .ok (.dup, 1) := by decide +kernel
theorem d2_17 : decode method_3_code 17 = .ok (.iconst 0, 1) := by decide +kernel
theorem d2_18 : decode method_3_code 18 = .ok (.lconst 1, 1) := by decide +kernel
theorem d2_19 : decode method_3_code 19 = .ok (.lastore, 1) := by decide +kernel
theorem d2_20 : decode method_3_code 20 = .ok (.areturn, 1) := by decide +kernel
theorem d2_21 : decode method_3_code 21 = .ok (.iload_n 0, 1) := by decide +kernel
theorem d2_22 : decode method_3_code 22 = .ok (.iconst 2, 1) := by decide +kernel
theorem d2_23 : decode method_3_code 23 = .ok (.if_icmp .ne 17, 3) := by decide +kernel
theorem d2_26 : decode method_3_code 26 = .ok (.iconst 2, 1) := by decide +kernel
theorem d2_27 : decode method_3_code 27 = .ok (.newarray .long, 2) := by decide +kernel
theorem d2_29 : decode method_3_code 29 = .ok (.dup, 1) := by decide +kernel
theorem d2_30 : decode method_3_code 30 = .ok (.iconst 0, 1) := by decide +kernel
theorem d2_31 : decode method_3_code 31 = .ok (.lconst 1, 1) := by decide +kernel
theorem d2_32 : decode method_3_code 32 = .ok (.lastore, 1) := by decide +kernel
theorem d2_33 : decode method_3_code 33 = .ok (.dup, 1) := by decide +kernel
theorem d2_34 : decode method_3_code 34 = .ok (.iconst 1, 1) := by decide +kernel
theorem d2_35 : decode method_3_code 35 = .ok (.ldc2_w 30, 3) := by decide +kernel
theorem d2_38 : decode method_3_code 38 = .ok (.lastore, 1) := by decide +kernel
theorem d2_39 : decode method_3_code 39 = .ok (.areturn, 1) := by decide +kernel
theorem d2_40 : decode method_3_code 40 = .ok (.iload_n 0, 1) := by decide +kernel
theorem d2_41 : decode method_3_code 41 = .ok (.iconst 3, 1) := by decide +kernel
theorem d2_42 : decode method_3_code 42 = .ok (.if_icmp .ne 23, 3) := by decide +kernel
theorem d2_45 : decode method_3_code 45 = .ok (.iconst 3, 1) := by decide +kernel
theorem d2_46 : decode method_3_code 46 = .ok (.newarray .long, 2) := by decide +kernel
theorem d2_48 : decode method_3_code 48 = .ok (.dup, 1) := by decide +kernel
theorem d2_49 : decode method_3_code 49 = .ok (.iconst 0, 1) := by decide +kernel
theorem d2_50 : decode method_3_code 50 = .ok (.lconst 1, 1) := by decide +kernel
theorem d2_51 : decode method_3_code 51 = .ok (.lastore, 1) := by decide +kernel
theorem d2_52 : decode method_3_code 52 = .ok (.dup, 1) := by decide +kernel
theorem d2_53 : decode method_3_code 53 = .ok (.iconst 1, 1) := by decide +kernel
theorem d2_54 : decode method_3_code 54 = .ok (.ldc2_w 30, 3) := by decide +kernel
theorem d2_57 : decode method_3_code 57 = .ok (.lastore, 1) := by decide +kernel
theorem d2_58 : decode method_3_code 58 = .ok (.dup, 1) := by decide +kernel
theorem d2_59 : decode method_3_code 59 = .ok (.iconst 2, 1) := by decide +kernel
theorem d2_60 : decode method_3_code 60 = .ok (.ldc2_w 32, 3) := by decide +kernel
theorem d2_63 : decode method_3_code 63 = .ok (.lastore, 1) := by decide +kernel
theorem d2_64 : decode method_3_code 64 = .ok (.areturn, 1) := by decide +kernel
theorem d2_65 : decode method_3_code 65 = .ok (.iload_n 0, 1) := by decide +kernel
theorem d2_66 : decode method_3_code 66 = .ok (.iconst 4, 1) := by decide +kernel
theorem d2_67 : decode method_3_code 67 = .ok (.if_icmp .ne 29, 3) := by decide +kernel
theorem d2_70 : decode method_3_code 70 = .ok (.iconst 4, 1) := by decide +kernel
theorem d2_71 : decode method_3_code 71 = .ok (.newarray .long, 2) := by decide +kernel
theorem d2_73 : decode method_3_code 73 = .ok (.dup, 1) := by decide +kernel
theorem d2_74 : decode method_3_code 74 = .ok (.iconst 0, 1) := by decide +kernel
theorem d2_75 : decode method_3_code 75 = .ok (.lconst 1, 1) := by decide +kernel
theorem d2_76 : decode method_3_code 76 = .ok (.lastore, 1) := by decide +kernel
theorem d2_77 : decode method_3_code 77 = .ok (.dup, 1) := by decide +kernel
theorem d2_78 : decode method_3_code 78 = .ok (.iconst 1, 1) := by decide +kernel
theorem d2_79 : decode method_3_code 79 = .ok (.ldc2_w 30, 3) := by decide +kernel
theorem d2_82 : decode method_3_code 82 = .ok (.lastore, 1) := by decide +kernel
theorem d2_83 : decode method_3_code 83 = .ok (.dup, 1) := by decide +kernel
theorem d2_84 : decode method_3_code 84 = .ok (.iconst 2, 1) := by decide +kernel
theorem d2_85 : decode method_3_code 85 = .ok (.ldc2_w 32, 3) := by decide +kernel
theorem d2_88 : decode method_3_code 88 = .ok (.lastore, 1) := by decide +kernel
theorem d2_89 : decode method_3_code 89 = .ok (.dup, 1) := by decide +kernel
theorem d2_90 : decode method_3_code 90 = .ok (.iconst 3, 1) := by decide +kernel
theorem d2_91 : decode method_3_code 91 = .ok (.ldc2_w 34, 3) := by decide +kernel
theorem d2_94 : decode method_3_code 94 = .ok (.lastore, 1) := by decide +kernel
theorem d2_95 : decode method_3_code 95 = .ok (.areturn, 1) := by decide +kernel
theorem d2_96 : decode method_3_code 96 = .ok (.iload_n 0, 1) := by decide +kernel
theorem d2_97 : decode method_3_code 97 = .ok (.iconst 5, 1) := by decide +kernel
theorem d2_98 : decode method_3_code 98 = .ok (.if_icmp .ne 35, 3) := by decide +kernel
theorem d2_101 : decode method_3_code 101 = .ok (.iconst 5, 1) := by decide +kernel
theorem d2_102 : decode method_3_code 102 = .ok (.newarray .long, 2) := by decide +kernel
theorem d2_104 : decode method_3_code 104 = .ok (.dup, 1) := by decide +kernel
theorem d2_105 : decode method_3_code 105 = .ok (.iconst 0, 1) := by decide +kernel
theorem d2_106 : decode method_3_code 106 = .ok (.lconst 1, 1) := by decide +kernel
theorem d2_107 : decode method_3_code 107 = .ok (.lastore, 1) := by decide +kernel
theorem d2_108 : decode method_3_code 108 = .ok (.dup, 1) := by decide +kernel
theorem d2_109 : decode method_3_code 109 = .ok (.iconst 1, 1) := by decide +kernel
theorem d2_110 : decode method_3_code 110 = .ok (.ldc2_w 30, 3) := by decide +kernel
theorem d2_113 : decode method_3_code 113 = .ok (.lastore, 1) := by decide +kernel
theorem d2_114 : decode method_3_code 114 = .ok (.dup, 1) := by decide +kernel
theorem d2_115 : decode method_3_code 115 = .ok (.iconst 2, 1) := by decide +kernel
theorem d2_116 : decode method_3_code 116 = .ok (.ldc2_w 32, 3) := by decide +kernel
theorem d2_119 : decode method_3_code 119 = .ok (.lastore, 1) := by decide +kernel
theorem d2_120 : decode method_3_code 120 = .ok (.dup, 1) := by decide +kernel
theorem d2_121 : decode method_3_code 121 = .ok (.iconst 3, 1) := by decide +kernel
theorem d2_122 : decode method_3_code 122 = .ok (.ldc2_w 34, 3) := by decide +kernel
theorem d2_125 : decode method_3_code 125 = .ok (.lastore, 1) := by decide +kernel
theorem d2_126 : decode method_3_code 126 = .ok (.dup, 1) := by decide +kernel
theorem d2_127 : decode method_3_code 127 = .ok (.iconst 4, 1) := by decide +kernel
theorem d2_128 : decode method_3_code 128 = .ok (.ldc2_w 36, 3) := by decide +kernel
theorem d2_131 : decode method_3_code 131 = .ok (.lastore, 1) := by decide +kernel
theorem d2_132 : decode method_3_code 132 = .ok (.areturn, 1) := by decide +kernel
theorem d2_133 : decode method_3_code 133 = .ok (.iload_n 0, 1) := by decide +kernel
theorem d2_134 : decode method_3_code 134 = .ok (.bipush 6, 2) := by decide +kernel
theorem d2_136 : decode method_3_code 136 = .ok (.if_icmp .ne 42, 3) := by decide +kernel
theorem d2_139 : decode method_3_code 139 = .ok (.bipush 6, 2) := by decide +kernel
theorem d2_141 : decode method_3_code 141 = .ok (.newarray .long, 2) := by decide +kernel
theorem d2_143 : decode method_3_code 143 = .ok (.dup, 1) := by decide +kernel
theorem d2_144 : decode method_3_code 144 = .ok (.iconst 0, 1) := by decide +kernel
theorem d2_145 : decode method_3_code 145 = .ok (.lconst 1, 1) := by decide +kernel
theorem d2_146 : decode method_3_code 146 = .ok (.lastore, 1) := by decide +kernel
theorem d2_147 : decode method_3_code 147 = .ok (.dup, 1) := by decide +kernel
theorem d2_148 : decode method_3_code 148 = .ok (.iconst 1, 1) := by decide +kernel
theorem d2_149 : decode method_3_code 149 = .ok (.ldc2_w 30, 3) := by decide +kernel
theorem d2_152 : decode method_3_code 152 = .ok (.lastore, 1) := by decide +kernel
theorem d2_153 : decode method_3_code 153 = .ok (.dup, 1) := by decide +kernel
theorem d2_154 : decode method_3_code 154 = .ok (.iconst 2, 1) := by decide +kernel
theorem d2_155 : decode method_3_code 155 = .ok (.ldc2_w 32, 3) := by decide +kernel
theorem d2_158 : decode method_3_code 158 = .ok (.lastore, 1) := by decide +kernel
theorem d2_159 : decode method_3_code 159 = .ok (.dup, 1) := by decide +kernel
theorem d2_160 : decode method_3_code 160 = .ok (.iconst 3, 1) := by decide +kernel
theorem d2_161 : decode method_3_code 161 = .ok (.ldc2_w 34, 3) := by decide +kernel
theorem d2_164 : decode method_3_code 164 = .ok (.lastore, 1) := by decide +kernel
theorem d2_165 : decode method_3_code 165 = .ok (.dup, 1) := by decide +kernel
theorem d2_166 : decode method_3_code 166 = .ok (.iconst 4, 1) := by decide +kernel
theorem d2_167 : decode method_3_code 167 = .ok (.ldc2_w 36, 3) := by decide +kernel
theorem d2_170 : decode method_3_code 170 = .ok (.lastore, 1) := by decide +kernel
theorem d2_171 : decode method_3_code 171 = .ok (.dup, 1) := by decide +kernel
theorem d2_172 : decode method_3_code 172 = .ok (.iconst 5, 1) := by decide +kernel
theorem d2_173 : decode method_3_code 173 = .ok (.ldc2_w 38, 3) := by decide +kernel
theorem d2_176 : decode method_3_code 176 = .ok (.lastore, 1) := by decide +kernel
theorem d2_177 : decode method_3_code 177 = .ok (.areturn, 1) := by decide +kernel
theorem d2_178 : decode method_3_code 178 = .ok (.bipush 7, 2) := by decide +kernel
theorem d2_180 : decode method_3_code 180 = .ok (.newarray .long, 2) := by decide +kernel
theorem d2_182 : decode method_3_code 182 = .ok (.dup, 1) := by decide +kernel
theorem d2_183 : decode method_3_code 183 = .ok (.iconst 0, 1) := by decide +kernel
theorem d2_184 : decode method_3_code 184 = .ok (.lconst 1, 1) := by decide +kernel
theorem d2_185 : decode method_3_code 185 = .ok (.lastore, 1) := by decide +kernel
theorem d2_186 : decode method_3_code 186 = .ok (.dup, 1) := by decide +kernel
theorem d2_187 : decode method_3_code 187 = .ok (.iconst 1, 1) := by decide +kernel
theorem d2_188 : decode method_3_code 188 = .ok (.ldc2_w 30, 3) := by decide +kernel
theorem d2_191 : decode method_3_code 191 = .ok (.lastore, 1) := by decide +kernel
theorem d2_192 : decode method_3_code 192 = .ok (.dup, 1) := by decide +kernel
theorem d2_193 : decode method_3_code 193 = .ok (.iconst 2, 1) := by decide +kernel
theorem d2_194 : decode method_3_code 194 = .ok (.ldc2_w 32, 3) := by decide +kernel
theorem d2_197 : decode method_3_code 197 = .ok (.lastore, 1) := by decide +kernel
theorem d2_198 : decode method_3_code 198 = .ok (.dup, 1) := by decide +kernel
theorem d2_199 : decode method_3_code 199 = .ok (.iconst 3, 1) := by decide +kernel
theorem d2_200 : decode method_3_code 200 = .ok (.ldc2_w 34, 3) := by decide +kernel
theorem d2_203 : decode method_3_code 203 = .ok (.lastore, 1) := by decide +kernel
theorem d2_204 : decode method_3_code 204 = .ok (.dup, 1) := by decide +kernel
theorem d2_205 : decode method_3_code 205 = .ok (.iconst 4, 1) := by decide +kernel
theorem d2_206 : decode method_3_code 206 = .ok (.ldc2_w 36, 3) := by decide +kernel
theorem d2_209 : decode method_3_code 209 = .ok (.lastore, 1) := by decide +kernel
theorem d2_210 : decode method_3_code 210 = .ok (.dup, 1) := by decide +kernel
theorem d2_211 : decode method_3_code 211 = .ok (.iconst 5, 1) := by decide +kernel
theorem d2_212 : decode method_3_code 212 = .ok (.ldc2_w 38, 3) := by decide +kernel
theorem d2_215 : decode method_3_code 215 = .ok (.lastore, 1) := by decide +kernel
theorem d2_216 : decode method_3_code 216 = .ok (.dup, 1) := by decide +kernel
theorem d2_217 : decode method_3_code 217 = .ok (.bipush 6, 2) := by decide +kernel
theorem d2_219 : decode method_3_code 219 = .ok (.ldc2_w 40, 3) := by decide +kernel
theorem d2_222 : decode method_3_code 222 = .ok (.lastore, 1) := by decide +kernel
theorem d2_223 : decode method_3_code 223 = .ok (.areturn, 1) := by decide +kernel
theorem d3_0 : decode prog_58_method_3_code 0 = .ok (.aload_n 0, 1) := by decide +kernel
theorem d3_1 : decode prog_58_method_3_code 1 = .ok (.arraylength, 1) := by decide +kernel
theorem d3_2 : decode prog_58_method_3_code 2 = .ok (.newarray .int, 2) := by decide +kernel
theorem d3_4 : decode prog_58_method_3_code 4 = .ok (.astore_n 2, 1) := by decide +kernel
theorem d3_5 : decode prog_58_method_3_code 5 = .ok (.iconst 0, 1) := by decide +kernel
theorem d3_6 : decode prog_58_method_3_code 6 = .ok (.istore_n 3, 1) := by decide +kernel
theorem d3_7 : decode prog_58_method_3_code 7 = .ok (.iconst 0, 1) := by decide +kernel
theorem d3_8 : decode prog_58_method_3_code 8 = .ok (.istore 4, 2) := by decide +kernel
theorem d3_10 : decode prog_58_method_3_code 10 = .ok (.iload_n 3, 1) := by decide +kernel
theorem d3_11 : decode prog_58_method_3_code 11 = .ok (.aload_n 0, 1) := by decide +kernel
theorem d3_12 : decode prog_58_method_3_code 12 = .ok (.arraylength, 1) := by decide +kernel
theorem d3_13 : decode prog_58_method_3_code 13 = .ok (.if_icmp .ge 28, 3) := by decide +kernel
theorem d3_16 : decode prog_58_method_3_code 16 = .ok (.aload_n 1, 1) := by decide +kernel
theorem d3_17 : decode prog_58_method_3_code 17 = .ok (.iload 4, 2) := by decide +kernel
theorem d3_19 : decode prog_58_method_3_code 19 = .ok (.iaload, 1) := by decide +kernel
theorem d3_20 : decode prog_58_method_3_code 20 = .ok (.iload_n 3, 1) := by decide +kernel
theorem d3_21 : decode prog_58_method_3_code 21 = .ok (.if_icmp .ge 9, 3) := by decide +kernel
theorem d3_24 : decode prog_58_method_3_code 24 = .ok (.iinc 4 1, 3) := by decide +kernel
theorem d3_27 : decode prog_58_method_3_code 27 = .ok (.goto (-11), 3) := by decide +kernel
theorem d3_30 : decode prog_58_method_3_code 30 = .ok (.aload_n 2, 1) := by decide +kernel
theorem d3_31 : decode prog_58_method_3_code 31 = .ok (.iload_n 3, 1) := by decide +kernel
theorem d3_32 : decode prog_58_method_3_code 32 = .ok (.iload 4, 2) := by decide +kernel
theorem d3_34 : decode prog_58_method_3_code 34 = .ok (.iastore, 1) := by decide +kernel
theorem d3_35 : decode prog_58_method_3_code 35 = .ok (.iinc 3 1, 3) := by decide +kernel
theorem d3_38 : decode prog_58_method_3_code 38 = .ok (.goto (-28), 3) := by decide +kernel
theorem d3_41 : decode prog_58_method_3_code 41 = .ok (.aload_n 2, 1) := by decide +kernel
theorem d3_42 : decode prog_58_method_3_code 42 = .ok (.areturn, 1) := by decide +kernel
theorem d4_0 : decode method_4_code 0 = .ok (.iload_n 3, 1) := by decide +kernel
theorem d4_1 : decode method_4_code 1 = .ok (.aload_n 0, 1) := by decide +kernel
theorem d4_2 : decode method_4_code 2 = .ok (.arraylength, 1) := by decide +kernel
theorem d4_3 : decode method_4_code 3 = .ok (.if_icmp .ge 15, 3) := by decide +kernel
theorem d4_6 : decode method_4_code 6 = .ok (.aload_n 0, 1) := by decide +kernel
theorem d4_7 : decode method_4_code 7 = .ok (.iload_n 3, 1) := by decide +kernel
theorem d4_8 : decode method_4_code 8 = .ok (.iaload, 1) := by decide +kernel
theorem d4_9 : decode method_4_code 9 = .ok (.aload_n 1, 1) := by decide +kernel
theorem d4_10 : decode method_4_code 10 = .ok (.iload_n 2, 1) := by decide +kernel
theorem d4_11 : decode method_4_code 11 = .ok (.iload_n 3, 1) := by decide +kernel
theorem d4_12 : decode method_4_code 12 = .ok (.invokestatic 42, 3) := by decide +kernel
theorem d4_15 : decode method_4_code 15 = .ok (.if_icmp .ne 7, 3) := by decide +kernel
theorem d4_18 : decode method_4_code 18 = .ok (.iconst 1, 1) := by decide +kernel
theorem d4_19 : decode method_4_code 19 = .ok (.goto 4, 3) := by decide +kernel
theorem d4_23 : decode method_4_code 23 = .ok (.ireturn, 1) := by decide +kernel
theorem d5_0 : decode method_5_code 0 = .ok (.aload_n 0, 1) := by decide +kernel
theorem d5_1 : decode method_5_code 1 = .ok (.iconst 0, 1) := by decide +kernel
theorem d5_2 : decode method_5_code 2 = .ok (.iaload, 1) := by decide +kernel
theorem d5_3 : decode method_5_code 3 = .ok (.iload_n 2, 1) := by decide +kernel
theorem d5_4 : decode method_5_code 4 = .ok (.if_icmp .lt 5, 3) := by decide +kernel
theorem d5_7 : decode method_5_code 7 = .ok (.iconst 0, 1) := by decide +kernel
theorem d5_8 : decode method_5_code 8 = .ok (.ireturn, 1) := by decide +kernel
theorem d5_9 : decode method_5_code 9 = .ok (.iload_n 1, 1) := by decide +kernel
theorem d5_10 : decode method_5_code 10 = .ok (.iconst 1, 1) := by decide +kernel
theorem d5_11 : decode method_5_code 11 = .ok (.if_icmp .le 12, 3) := by decide +kernel
theorem d5_14 : decode method_5_code 14 = .ok (.aload_n 0, 1) := by decide +kernel
theorem d5_15 : decode method_5_code 15 = .ok (.iconst 1, 1) := by decide +kernel
theorem d5_16 : decode method_5_code 16 = .ok (.iaload, 1) := by decide +kernel
theorem d5_17 : decode method_5_code 17 = .ok (.iload_n 2, 1) := by decide +kernel
theorem d5_18 : decode method_5_code 18 = .ok (.if_icmp .lt 5, 3) := by decide +kernel
theorem d5_21 : decode method_5_code 21 = .ok (.iconst 1, 1) := by decide +kernel
theorem d5_22 : decode method_5_code 22 = .ok (.ireturn, 1) := by decide +kernel
theorem d5_23 : decode method_5_code 23 = .ok (.iload_n 1, 1) := by decide +kernel
theorem d5_24 : decode method_5_code 24 = .ok (.iconst 2, 1) := by decide +kernel
theorem d5_25 : decode method_5_code 25 = .ok (.if_icmp .le 12, 3) := by decide +kernel
theorem d5_28 : decode method_5_code 28 = .ok (.aload_n 0, 1) := by decide +kernel
theorem d5_29 : decode method_5_code 29 = .ok (.iconst 2, 1) := by decide +kernel
theorem d5_30 : decode method_5_code 30 = .ok (.iaload, 1) := by decide +kernel
theorem d5_31 : decode method_5_code 31 = .ok (.iload_n 2, 1) := by decide +kernel
theorem d5_32 : decode method_5_code 32 = .ok (.if_icmp .lt 5, 3) := by decide +kernel
theorem d5_35 : decode method_5_code 35 = .ok (.iconst 2, 1) := by decide +kernel
theorem d5_36 : decode method_5_code 36 = .ok (.ireturn, 1) := by decide +kernel
theorem d5_37 : decode method_5_code 37 = .ok (.iload_n 1, 1) := by decide +kernel
theorem d5_38 : decode method_5_code 38 = .ok (.iconst 1, 1) := by decide +kernel
theorem d5_39 : decode method_5_code 39 = .ok (.isub, 1) := by decide +kernel
theorem d5_40 : decode method_5_code 40 = .ok (.ireturn, 1) := by decide +kernel
abbrev own_y1 : MethodName := ⟨"java/lang/Math", "max", "(II)I"⟩
abbrev own_y2 : MethodName := ⟨"com/example/equitide/equitide/policy/backfilling/CountBoundsTreeStepOfPinLaw", "counts", "(I)[J"⟩
abbrev own_y3 : MethodName := ⟨"com/example/equitide/equitide/policy/backfilling/CountBoundsTree", "stepOf", "([J[I)[I"⟩
abbrev own_y5 : MethodName := ⟨"com/example/equitide/equitide/policy/backfilling/CountBoundsTreeStepOfPinLaw", "expected", "([III)I"⟩
abbrev own_y4 : MethodName := ⟨"com/example/equitide/equitide/policy/backfilling/CountBoundsTreeStepOfPinLaw", "at", "([I[III)Z"⟩
theorem pf_1 : plainFor own_y1 = true := by decide +kernel
theorem pf_2 : plainFor own_y2 = true := by decide +kernel
theorem pf_3 : plainFor own_y3 = true := by decide +kernel
theorem pf_5 : plainFor own_y5 = true := by decide +kernel
theorem pf_4 : plainFor own_y4 = true := by decide +kernel
theorem pn_0 : plainName "com/example/equitide/equitide/policy/backfilling/CountBoundsTreeStepOfPinLaw" = true := by first | (simp [plainName, overriddenIn]; done) | decide +kernel
theorem pd_0 : parseMethodDescriptor "([III)I" = some ⟨[(.array .int), .int, .int], some .int⟩ := by decide +kernel
theorem pd_1 : parseMethodDescriptor "(II)I" = some ⟨[.int, .int], some .int⟩ := by decide +kernel
theorem pd_2 : parseMethodDescriptor "(I)[J" = some ⟨[.int], some (.array .long)⟩ := by decide +kernel
theorem pd_3 : parseMethodDescriptor "([J[I)[I" = some ⟨[(.array .long), (.array .int)], some (.array .int)⟩ := by decide +kernel
theorem pd_4 : parseMethodDescriptor "([I[III)Z" = some ⟨[(.array .int), (.array .int), .int, .int], some .boolean⟩ := by decide +kernel
theorem own_and32 (x m : Int32) (k : Nat) (hm : m.toBitVec.toNat = 2 ^ k - 1) (hk : k < 32) : (x &&& m).toInt = ((x.toBitVec.toNat % 2 ^ k : Nat) : Int) := by
  have h : (x &&& m).toBitVec.toNat = x.toBitVec.toNat % 2 ^ k := by
    rw [Int32.toBitVec_and, BitVec.toNat_and, hm, Nat.and_two_pow_sub_one_eq_mod]
  have h2 : x.toBitVec.toNat % 2 ^ k < 2 ^ k := Nat.mod_lt _ (Nat.two_pow_pos k)
  have h3 : 2 ^ k ≤ 2 ^ 31 := Nat.pow_le_pow_right (by decide) (by omega)
  rw [← Int32.toInt_toBitVec, BitVec.toInt_eq_toNat_of_lt (by omega), h]
theorem own_n (x : Int32) : ∃ n : Nat, n < 8 ∧ (x &&& (7 : Int32)) = Int32.ofNat n := by
  have h := own_and32 x 7 3 (by decide) (by decide)
  refine ⟨x.toBitVec.toNat % 2 ^ 3, by omega, Int32.toInt_inj.mp ?_⟩
  rw [h, Int32.toInt_ofNat_of_lt (by omega)]
theorem own_k (x : Int32) : ((1 : Int32) + (x &&& (3 : Int32))) = 1 ∨ ((1 : Int32) + (x &&& (3 : Int32))) = 2 ∨ ((1 : Int32) + (x &&& (3 : Int32))) = 3 ∨ ((1 : Int32) + (x &&& (3 : Int32))) = 4 := by
  have h := own_and32 x 3 2 (by decide) (by decide)
  have e : (x &&& (3 : Int32)) = Int32.ofNat (x.toBitVec.toNat % 2 ^ 2) := Int32.toInt_inj.mp (by rw [h, Int32.toInt_ofNat_of_lt (by omega)])
  rw [e]
  have q : x.toBitVec.toNat % 2 ^ 2 = 0 ∨ x.toBitVec.toNat % 2 ^ 2 = 1 ∨ x.toBitVec.toNat % 2 ^ 2 = 2 ∨ x.toBitVec.toNat % 2 ^ 2 = 3 := by omega
  rcases q with r | r | r | r <;> rw [r] <;> decide
theorem own_n32 {i : Nat} (h : i < 2147483648) : (Int32.ofNat i).toInt = i := Int32.toInt_ofNat_of_lt h
theorem own_lt32 {i j : Nat} (hi : i < 2147483648) (hj : j < 2147483648) : Int32.ofNat i < Int32.ofNat j ↔ i < j := by
  rw [Int32.lt_iff_toInt_lt, own_n32 hi, own_n32 hj]; omega
theorem own_eq32 {i j : Nat} (hi : i < 2147483648) (hj : j < 2147483648) : Int32.ofNat i = Int32.ofNat j ↔ i = j := by
  refine ⟨fun q => ?_, fun q => q ▸ rfl⟩
  have := congrArg Int32.toInt q
  rw [own_n32 hi, own_n32 hj] at this; omega
theorem own_top {n : Nat} (hn : n < 8) {u : Int32} (h1 : Int32.ofNat n = 0 → u = 0) (h2 : ¬ Int32.ofNat n = 0 → u = Int32.ofNat n - 1) : u = Int32.ofNat (n - 1) := by
  have q : n = 0 ∨ n = 1 ∨ n = 2 ∨ n = 3 ∨ n = 4 ∨ n = 5 ∨ n = 6 ∨ n = 7 := by omega
  rcases q with rfl | rfl | rfl | rfl | rfl | rfl | rfl | rfl
  · exact h1 rfl
  all_goals exact h2 (by decide)
theorem own_nz {n : Nat} (hn : n < 8) : Int32.ofNat (n - 1) + (1 : Int32) ≠ 0 := by
  have q : n - 1 = 0 ∨ n - 1 = 1 ∨ n - 1 = 2 ∨ n - 1 = 3 ∨ n - 1 = 4 ∨ n - 1 = 5 ∨ n - 1 = 6 := by omega
  rcases q with r | r | r | r | r | r | r <;> rw [r] <;> decide
/-- the first place of K that holds at least c -/
def own_first (K : List Int32) (c : Nat) : Nat := K.findIdx (fun x => !decide (x < Int32.ofNat c))
theorem own_before {K : List Int32} {c i : Nat} (h : i < own_first K c) : ∃ x, K[i]? = some x ∧ x < Int32.ofNat c := by
  have hl : i < K.length := Nat.lt_of_lt_of_le h List.findIdx_le_length
  refine ⟨K[i], List.getElem?_eq_getElem hl, ?_⟩
  have := List.not_of_lt_findIdx h
  simpa using this
theorem own_there {K : List Int32} {c : Nat} (h : own_first K c < K.length) : ∃ x, K[own_first K c]? = some x ∧ ¬ x < Int32.ofNat c := by
  unfold own_first at h ⊢
  refine ⟨_, List.getElem?_eq_getElem h, ?_⟩
  have := List.findIdx_getElem (w := h)
  simpa using this
theorem own_mono {K : List Int32} {c : Nat} (hc : c + 1 < 2147483648) (h : own_first K (c + 1) < K.length) : own_first K c ≤ own_first K (c + 1) := by
  apply Nat.le_of_not_lt
  intro q
  obtain ⟨x, h1, h2⟩ := own_before q
  obtain ⟨y, g1, g2⟩ := own_there h
  rw [h1] at g1
  cases g1
  apply g2
  rw [Int32.lt_iff_toInt_lt, own_n32 (by omega)] at *
  omega
def own_R (K : List Int32) (n c : Nat) : List Int32 := (List.range c).map (fun c => Int32.ofNat (own_first K c)) ++ List.replicate (n - c) 0
theorem own_R0 (K : List Int32) (n : Nat) : List.replicate n (0 : Int32) = own_R K n 0 := by simp [own_R]
theorem own_Rl (K : List Int32) {n c : Nat} (h : c ≤ n) : (own_R K n c).length = n := by simp [own_R]; omega
theorem own_Rset (K : List Int32) {n c : Nat} (h : c < n) : (own_R K n c).set c (Int32.ofNat (own_first K c)) = own_R K n (c + 1) := by
  unfold own_R
  have e : n - c = (n - (c + 1)) + 1 := by omega
  rw [e, List.replicate_succ, List.range_succ, List.map_append, List.set_append_right _ _ (by simp)]
  simp
theorem own_Rn (K : List Int32) (n : Nat) : own_R K n n = (List.range n).map (fun c => Int32.ofNat (own_first K c)) := by simp [own_R]
theorem own_Rat (K : List Int32) {n c : Nat} (h : c < n) : ((List.range n).map (fun c => Int32.ofNat (own_first K c)))[c]? = some (Int32.ofNat (own_first K c)) := by simp [h]
theorem own_last {n c : Nat} (hn : n < 8) (hc : c < n) : ¬ Int32.ofNat (n - 1) < Int32.ofNat c := by
  rw [own_lt32 (by omega) (by omega)]; omega
theorem own_f1 {t : Int32} {c : Nat} (h : ¬ t < Int32.ofNat c) : own_first [t] c = 0 := by simp [own_first, List.findIdx_cons, h]
theorem own_f2 {x t : Int32} {c : Nat} (h : ¬ t < Int32.ofNat c) : own_first [x, t] c = if x < Int32.ofNat c then 1 else 0 := by
  by_cases q : x < Int32.ofNat c <;> simp [own_first, List.findIdx_cons, h, q]
theorem own_f3 {x y t : Int32} {c : Nat} (h : ¬ t < Int32.ofNat c) : own_first [x, y, t] c = if x < Int32.ofNat c then (if y < Int32.ofNat c then 2 else 1) else 0 := by
  by_cases q : x < Int32.ofNat c <;> by_cases r : y < Int32.ofNat c <;> simp [own_first, List.findIdx_cons, h, q, r]
theorem own_f4 {x y z t : Int32} {c : Nat} (h : ¬ t < Int32.ofNat c) : own_first [x, y, z, t] c = if x < Int32.ofNat c then (if y < Int32.ofNat c then (if z < Int32.ofNat c then 3 else 2) else 1) else 0 := by
  by_cases q : x < Int32.ofNat c <;> by_cases r : y < Int32.ofNat c <;> by_cases u : z < Int32.ofNat c <;> simp [own_first, List.findIdx_cons, h, q, r, u]

def Q1 (h0 : Heap) (n0 : Nat) (v : Option Value) (h : Heap) (L : List Loc) : Prop := ∃ r : Int32, v = some (.int r) ∧ Fr n0 L ∧ h = h0
theorem ef_rm1 (m : MethodId) (x0 : Int32) (x1 : Int32) : entryFrame m #[(.int x0), (.int x1)] 2 = mkF m 0 #[.val (.int x0), .val (.int x1)] [] := by first | (simp [entryFrame, mkF, argsToLocals, Value.category, maxLocals]; done) | rfl
set_option maxRecDepth 65536 in
set_option maxHeartbeats 40000000 in
theorem rm1 (l : Launch) (Z : State) (a0 : Array Value) (hw : ∀ d ∈ tables_1, d.before a0 Z = true) (ws : List Jvm.Cond) (a b : Int32) (h0 : Heap) (n0 : Nat)  :
    MetFree l own_y1 (head1 (Jvm.Cond.code own_y1 jdk_29_method_65_code 2 (some .int) :: ws) ({ frames := 0, cells := 0, slots := 0, locals := 0 } : Room)) (fun aR U => aR = #[(.int a), (.int b)] ∧ Z.Warmed39 U.vm ∧ U.heap = h0) (fun _ _ _ _ _ => True) (fun _ U o U' => ∃ v L, o = .returned v ∧ Q1 h0 n0 v U'.heap L ∧ FrameEnd U o U' L ({ frames := 0, cells := 0, slots := 0, locals := 0 } : Room).cells ({ frames := 0, cells := 0, slots := 0, locals := 0 } : Room).slots) := by
  refine MetFree.of_bodySF pf_1 hisR ?_
  intro p e s m args below meth c s₁ Bd hml0 hP hK
  obtain ⟨rfl, hZ, hhE⟩ := hP
  have hx := Bd.exec
  have hby := Bd.bytes
  have hml : c.maxLocals = 2 := hml0
  have hown : s.vm.findClass "java/lang/Math" = some m.cls := findClass_of_methodNamed Bd.named
  have hnm := (name_of_methodNamed Bd.named Bd.method).1
  have X0 : Stand p l e ({ frames := 0, cells := 0, slots := 0, locals := 0 } : Room) s m #[(.int a), (.int b)] below meth c s₁ [] 0 0 := Stand.of_body Bd
  have e0 : s₁.heap = h0 := by rw [← hhE, Bd.state]; rfl
  have N0 := Fr.nil n0
  show own_Go p e below (own_Post s (Q1 h0 n0) ({ frames := 0, cells := 0, slots := 0, locals := 0 } : Room).cells ({ frames := 0, cells := 0, slots := 0, locals := 0 } : Room).slots) (s₁.setTop (entryFrame m #[(.int a), (.int b)] 2))
  rw [ef_rm1]
  generalize hG : own_Post s (Q1 h0 n0) ({ frames := 0, cells := 0, slots := 0, locals := 0 } : Room).cells ({ frames := 0, cells := 0, slots := 0, locals := 0 } : Room).slots = G
  refine own_iloadN X0 hx (hb hby d1_0) rfl 1 rfl ?_
  refine own_iloadN X0 hx (hb hby d1_1) rfl 2 rfl ?_
  by_cases c1 : a < b
  ·
    refine own_icmpY X0 hx (hb hby d1_2) (tlt c1).1 9 ⟨by decide, by decide⟩ ?_
    refine own_iloadN X0 hx (hb hby d1_9) rfl 10 rfl ?_
    refine own_ireturn X0 hx Bd.notSynchronized hG Bd.returns (hb hby d1_10) (by decide) (by decide) ?_
    rw [e0]
    exact ⟨_, rfl, N0, rfl⟩
  ·
    refine own_icmpN X0 hx (hb hby d1_2) (flt c1).1 5 rfl ?_
    refine own_iloadN X0 hx (hb hby d1_5) rfl 6 rfl ?_
    refine own_goto X0 hx (hb hby d1_6) 10 ⟨by decide, by decide⟩ ?_
    refine own_ireturn X0 hx Bd.notSynchronized hG Bd.returns (hb hby d1_10) (by decide) (by decide) ?_
    rw [e0]
    exact ⟨_, rfl, N0, rfl⟩
def Q2 (Z : State) (nn : Nat) (h0 : Heap) (n0 : Nat) (v : Option Value) (h : Heap) (L : List Loc) : Prop := ∃ (b : Addr) (Lc : List Int64), v = some (.ref b) ∧ Fr n0 L ∧ Keep h0 h [] ∧ own_A .long Value.long Z h b Lc ∧ Lc.length = nn
theorem ef_rm2 (m : MethodId) (x0 : Int32) : entryFrame m #[(.int x0)] 1 = mkF m 0 #[.val (.int x0)] [] := by first | (simp [entryFrame, mkF, argsToLocals, Value.category, maxLocals]; done) | rfl
set_option maxRecDepth 65536 in
set_option maxHeartbeats 40000000 in
theorem rm2 (l : Launch) (Z : State) (a0 : Array Value) (hw : ∀ d ∈ tables_1, d.before a0 Z = true) (ws : List Jvm.Cond) (nn : Nat) (h0 : Heap) (n0 : Nat) (hnn : nn < 8) (Z0 : n0 ≤ h0.size) :
    MetFree l own_y2 (head1 (Jvm.Cond.code own_y2 method_3_code 1 (some (.array .long)) :: ws) ({ frames := 0, cells := 1, slots := 7, locals := 0 } : Room)) (fun aR U => aR = #[(.int (Int32.ofNat nn))] ∧ Z.Warmed39 U.vm ∧ U.heap = h0) (fun _ _ _ _ _ => True) (fun _ U o U' => ∃ v L, o = .returned v ∧ Q2 Z nn h0 n0 v U'.heap L ∧ FrameEnd U o U' L ({ frames := 0, cells := 1, slots := 7, locals := 0 } : Room).cells ({ frames := 0, cells := 1, slots := 7, locals := 0 } : Room).slots) := by
  refine MetFree.of_bodySF pf_2 hisR ?_
  intro p e s m args below meth c s₁ Bd hml0 hP hK
  obtain ⟨rfl, hZ, hhE⟩ := hP
  have hx := Bd.exec
  have hby := Bd.bytes
  have hml : c.maxLocals = 1 := hml0
  have hown : s.vm.findClass "com/example/equitide/equitide/policy/backfilling/CountBoundsTreeStepOfPinLaw" = some m.cls := findClass_of_methodNamed Bd.named
  have hnm := (name_of_methodNamed Bd.named Bd.method).1
  have X0 : Stand p l e ({ frames := 0, cells := 1, slots := 7, locals := 0 } : Room) s m #[(.int (Int32.ofNat nn))] below meth c s₁ [] 0 0 := Stand.of_body Bd
  have e0 : s₁.heap = h0 := by rw [← hhE, Bd.state]; rfl
  have N0 := Fr.nil n0
  show own_Go p e below (own_Post s (Q2 Z nn h0 n0) ({ frames := 0, cells := 1, slots := 7, locals := 0 } : Room).cells ({ frames := 0, cells := 1, slots := 7, locals := 0 } : Room).slots) (s₁.setTop (entryFrame m #[(.int (Int32.ofNat nn))] 1))
  rw [ef_rm2]
  generalize hG : own_Post s (Q2 Z nn h0 n0) ({ frames := 0, cells := 1, slots := 7, locals := 0 } : Room).cells ({ frames := 0, cells := 1, slots := 7, locals := 0 } : Room).slots = G
  have q : nn = 0 ∨ nn = 1 ∨ nn = 2 ∨ nn = 3 ∨ nn = 4 ∨ nn = 5 ∨ nn = 6 ∨ nn = 7 := by omega
  rcases q with rfl | rfl | rfl | rfl | rfl | rfl | rfl | rfl
  ·
    show own_Go p e below G (s₁.setTop (mkF m 0 #[.val (.int (0 : Int32))] []))
    refine own_iloadN X0 hx (hb hby d2_0) rfl 1 rfl ?_
    refine own_ifN X0 hx (hb hby d2_1) ((if0 _ _).trans (teq (by decide)).2) 4 rfl ?_
    refine own_iconst X0 hx (hb hby d2_4) (0 : Int32) rfl 5 rfl ?_
    refine own_newJ X0 hx hZ (own_w hw 10 rfl) e0 (hb hby d2_5) 0 rfl 0 (by decide) (by decide) (by decide) (by decide) 7 rfl (fun T2 h2 a2 g2 X2 e2 E2 V2 => ?_)
    have ge3 : n0 ≤ a2 := by rw [g2]; exact Z0
    have Z4 : n0 ≤ h2.size := Nat.le_trans Z0 E2.1
    rw [show (List.replicate 0 (0 : Int64)) = ([] : List Int64) from rfl] at V2
    have K0 : Keep h0 h2 [] := (Keep.refl _ _).ext E2
    refine own_areturn X2 hx Bd.notSynchronized hG Bd.returns rfl rfl rfl (hb hby d2_7) (by decide) (by decide) ?_
    rw [e2]
    exact ⟨_, _, rfl, N0, K0, V2, rfl⟩
  ·
    show own_Go p e below G (s₁.setTop (mkF m 0 #[.val (.int (1 : Int32))] []))
    refine own_iloadN X0 hx (hb hby d2_0) rfl 1 rfl ?_
    refine own_ifY X0 hx (hb hby d2_1) ((if0 _ _).trans (feq (by decide)).2) 8 ⟨by decide, by decide⟩ ?_
    refine own_iloadN X0 hx (hb hby d2_8) rfl 9 rfl ?_
    refine own_iconst X0 hx (hb hby d2_9) (1 : Int32) rfl 10 rfl ?_
    refine own_icmpN X0 hx (hb hby d2_10) (teq (by decide)).2 13 rfl ?_
    refine own_iconst X0 hx (hb hby d2_13) (1 : Int32) rfl 14 rfl ?_
    refine own_newJ X0 hx hZ (own_w hw 10 rfl) e0 (hb hby d2_14) 1 rfl 1 (by decide) (by decide) (by decide) (by decide) 16 rfl (fun T5 h5 a5 g5 X5 e5 E5 V5 => ?_)
    have ge6 : n0 ≤ a5 := by rw [g5]; exact Z0
    have Z7 : n0 ≤ h5.size := Nat.le_trans Z0 E5.1
    rw [show (List.replicate 1 (0 : Int64)) = [(0 : Int64)] from rfl] at V5
    have K0 : Keep h0 h5 [] := (Keep.refl _ _).ext E5
    refine own_dup X5 hx (hb hby d2_16) rfl 17 rfl ?_
    refine own_iconst X5 hx (hb hby d2_17) (0 : Int32) rfl 18 rfl ?_
    refine own_lconst X5 hx (hb hby d2_18) (1 : Int64) rfl 19 rfl ?_
    refine own_lastore X5 hx hZ e5 V5 0 rfl (by simp) (hb hby d2_19) 20 rfl (fun T8 h8 X8 e8 W8 V8 => ?_)
    rw [show [(0 : Int64)].set 0 (1 : Int64) = [(1 : Int64)] from rfl] at V8
    have N9 := Fr.snoc X8 N0 ge6
    have Z10 : n0 ≤ h8.size := by rw [W8.size]; exact Z7
    have K11 := Keep.wr K0 W8 (Or.inr (Nat.le_of_eq g5.symm))
    refine own_areturn X8 hx Bd.notSynchronized hG Bd.returns rfl rfl rfl (hb hby d2_20) (by decide) (by decide) ?_
    rw [e8]
    exact ⟨_, _, rfl, N9, K11, V8, rfl⟩
  ·
    show own_Go p e below G (s₁.setTop (mkF m 0 #[.val (.int (2 : Int32))] []))
    refine own_iloadN X0 hx (hb hby d2_0) rfl 1 rfl ?_
    refine own_ifY X0 hx (hb hby d2_1) ((if0 _ _).trans (feq (by decide)).2) 8 ⟨by decide, by decide⟩ ?_
    refine own_iloadN X0 hx (hb hby d2_8) rfl 9 rfl ?_
    refine own_iconst X0 hx (hb hby d2_9) (1 : Int32) rfl 10 rfl ?_
    refine own_icmpY X0 hx (hb hby d2_10) (feq (by decide)).2 21 ⟨by decide, by decide⟩ ?_
    refine own_iloadN X0 hx (hb hby d2_21) rfl 22 rfl ?_
    refine own_iconst X0 hx (hb hby d2_22) (2 : Int32) rfl 23 rfl ?_
    refine own_icmpN X0 hx (hb hby d2_23) (teq (by decide)).2 26 rfl ?_
    refine own_iconst X0 hx (hb hby d2_26) (2 : Int32) rfl 27 rfl ?_
    refine own_newJ X0 hx hZ (own_w hw 10 rfl) e0 (hb hby d2_27) 2 rfl 2 (by decide) (by decide) (by decide) (by decide) 29 rfl (fun T12 h12 a12 g12 X12 e12 E12 V12 => ?_)
    have ge13 : n0 ≤ a12 := by rw [g12]; exact Z0
    have Z14 : n0 ≤ h12.size := Nat.le_trans Z0 E12.1
    rw [show (List.replicate 2 (0 : Int64)) = [(0 : Int64), (0 : Int64)] from rfl] at V12
    have K0 : Keep h0 h12 [] := (Keep.refl _ _).ext E12
    refine own_dup X12 hx (hb hby d2_29) rfl 30 rfl ?_
    refine own_iconst X12 hx (hb hby d2_30) (0 : Int32) rfl 31 rfl ?_
    refine own_lconst X12 hx (hb hby d2_31) (1 : Int64) rfl 32 rfl ?_
    refine own_lastore X12 hx hZ e12 V12 0 rfl (by simp) (hb hby d2_32) 33 rfl (fun T15 h15 X15 e15 W15 V15 => ?_)
    rw [show [(0 : Int64), (0 : Int64)].set 0 (1 : Int64) = [(1 : Int64), (0 : Int64)] from rfl] at V15
    have N16 := Fr.snoc X15 N0 ge13
    have Z17 : n0 ≤ h15.size := by rw [W15.size]; exact Z14
    have K18 := Keep.wr K0 W15 (Or.inr (Nat.le_of_eq g12.symm))
    refine own_dup X15 hx (hb hby d2_33) rfl 34 rfl ?_
    refine own_iconst X15 hx (hb hby d2_34) (1 : Int32) rfl 35 rfl ?_
    refine own_ldc2Long X15 hx hown (mvT hZ (own_w hw 18 rfl)) (hb hby d2_35) 38 rfl ?_
    refine own_lastore X15 hx hZ e15 V15 1 rfl (by simp) (hb hby d2_38) 39 rfl (fun T19 h19 X19 e19 W19 V19 => ?_)
    rw [show [(1 : Int64), (0 : Int64)].set 1 (2 : Int64) = [(1 : Int64), (2 : Int64)] from rfl] at V19
    have N20 := Fr.snoc X19 N16 ge13
    have Z21 : n0 ≤ h19.size := by rw [W19.size]; exact Z17
    have K22 := Keep.wr K18 W19 (Or.inr (Nat.le_of_eq g12.symm))
    refine own_areturn X19 hx Bd.notSynchronized hG Bd.returns rfl rfl rfl (hb hby d2_39) (by decide) (by decide) ?_
    rw [e19]
    exact ⟨_, _, rfl, N20, K22, V19, rfl⟩
  ·
    show own_Go p e below G (s₁.setTop (mkF m 0 #[.val (.int (3 : Int32))] []))
    refine own_iloadN X0 hx (hb hby d2_0) rfl 1 rfl ?_
    refine own_ifY X0 hx (hb hby d2_1) ((if0 _ _).trans (feq (by decide)).2) 8 ⟨by decide, by decide⟩ ?_
    refine own_iloadN X0 hx (hb hby d2_8) rfl 9 rfl ?_
    refine own_iconst X0 hx (hb hby d2_9) (1 : Int32) rfl 10 rfl ?_
    refine own_icmpY X0 hx (hb hby d2_10) (feq (by decide)).2 21 ⟨by decide, by decide⟩ ?_
    refine own_iloadN X0 hx (hb hby d2_21) rfl 22 rfl ?_
    refine own_iconst X0 hx (hb hby d2_22) (2 : Int32) rfl 23 rfl ?_
    refine own_icmpY X0 hx (hb hby d2_23) (feq (by decide)).2 40 ⟨by decide, by decide⟩ ?_
    refine own_iloadN X0 hx (hb hby d2_40) rfl 41 rfl ?_
    refine own_iconst X0 hx (hb hby d2_41) (3 : Int32) rfl 42 rfl ?_
    refine own_icmpN X0 hx (hb hby d2_42) (teq (by decide)).2 45 rfl ?_
    refine own_iconst X0 hx (hb hby d2_45) (3 : Int32) rfl 46 rfl ?_
    refine own_newJ X0 hx hZ (own_w hw 10 rfl) e0 (hb hby d2_46) 3 rfl 3 (by decide) (by decide) (by decide) (by decide) 48 rfl (fun T23 h23 a23 g23 X23 e23 E23 V23 => ?_)
    have ge24 : n0 ≤ a23 := by rw [g23]; exact Z0
    have Z25 : n0 ≤ h23.size := Nat.le_trans Z0 E23.1
    rw [show (List.replicate 3 (0 : Int64)) = [(0 : Int64), (0 : Int64), (0 : Int64)] from rfl] at V23
    have K0 : Keep h0 h23 [] := (Keep.refl _ _).ext E23
    refine own_dup X23 hx (hb hby d2_48) rfl 49 rfl ?_
    refine own_iconst X23 hx (hb hby d2_49) (0 : Int32) rfl 50 rfl ?_
    refine own_lconst X23 hx (hb hby d2_50) (1 : Int64) rfl 51 rfl ?_
    refine own_lastore X23 hx hZ e23 V23 0 rfl (by simp) (hb hby d2_51) 52 rfl (fun T26 h26 X26 e26 W26 V26 => ?_)
    rw [show [(0 : Int64), (0 : Int64), (0 : Int64)].set 0 (1 : Int64) = [(1 : Int64), (0 : Int64), (0 : Int64)] from rfl] at V26
    have N27 := Fr.snoc X26 N0 ge24
    have Z28 : n0 ≤ h26.size := by rw [W26.size]; exact Z25
    have K29 := Keep.wr K0 W26 (Or.inr (Nat.le_of_eq g23.symm))
    refine own_dup X26 hx (hb hby d2_52) rfl 53 rfl ?_
    refine own_iconst X26 hx (hb hby d2_53) (1 : Int32) rfl 54 rfl ?_
    refine own_ldc2Long X26 hx hown (mvT hZ (own_w hw 18 rfl)) (hb hby d2_54) 57 rfl ?_
    refine own_lastore X26 hx hZ e26 V26 1 rfl (by simp) (hb hby d2_57) 58 rfl (fun T30 h30 X30 e30 W30 V30 => ?_)
    rw [show [(1 : Int64), (0 : Int64), (0 : Int64)].set 1 (2 : Int64) = [(1 : Int64), (2 : Int64), (0 : Int64)] from rfl] at V30
    have N31 := Fr.snoc X30 N27 ge24
    have Z32 : n0 ≤ h30.size := by rw [W30.size]; exact Z28
    have K33 := Keep.wr K29 W30 (Or.inr (Nat.le_of_eq g23.symm))
    refine own_dup X30 hx (hb hby d2_58) rfl 59 rfl ?_
    refine own_iconst X30 hx (hb hby d2_59) (2 : Int32) rfl 60 rfl ?_
    refine own_ldc2Long X30 hx hown (mvT hZ (own_w hw 19 rfl)) (hb hby d2_60) 63 rfl ?_
    refine own_lastore X30 hx hZ e30 V30 2 rfl (by simp) (hb hby d2_63) 64 rfl (fun T34 h34 X34 e34 W34 V34 => ?_)
    rw [show [(1 : Int64), (2 : Int64), (0 : Int64)].set 2 (4 : Int64) = [(1 : Int64), (2 : Int64), (4 : Int64)] from rfl] at V34
    have N35 := Fr.snoc X34 N31 ge24
    have Z36 : n0 ≤ h34.size := by rw [W34.size]; exact Z32
    have K37 := Keep.wr K33 W34 (Or.inr (Nat.le_of_eq g23.symm))
    refine own_areturn X34 hx Bd.notSynchronized hG Bd.returns rfl rfl rfl (hb hby d2_64) (by decide) (by decide) ?_
    rw [e34]
    exact ⟨_, _, rfl, N35, K37, V34, rfl⟩
  ·
    show own_Go p e below G (s₁.setTop (mkF m 0 #[.val (.int (4 : Int32))] []))
    refine own_iloadN X0 hx (hb hby d2_0) rfl 1 rfl ?_
    refine own_ifY X0 hx (hb hby d2_1) ((if0 _ _).trans (feq (by decide)).2) 8 ⟨by decide, by decide⟩ ?_
    refine own_iloadN X0 hx (hb hby d2_8) rfl 9 rfl ?_
    refine own_iconst X0 hx (hb hby d2_9) (1 : Int32) rfl 10 rfl ?_
    refine own_icmpY X0 hx (hb hby d2_10) (feq (by decide)).2 21 ⟨by decide, by decide⟩ ?_
    refine own_iloadN X0 hx (hb hby d2_21) rfl 22 rfl ?_
    refine own_iconst X0 hx (hb hby d2_22) (2 : Int32) rfl 23 rfl ?_
    refine own_icmpY X0 hx (hb hby d2_23) (feq (by decide)).2 40 ⟨by decide, by decide⟩ ?_
    refine own_iloadN X0 hx (hb hby d2_40) rfl 41 rfl ?_
    refine own_iconst X0 hx (hb hby d2_41) (3 : Int32) rfl 42 rfl ?_
    refine own_icmpY X0 hx (hb hby d2_42) (feq (by decide)).2 65 ⟨by decide, by decide⟩ ?_
    refine own_iloadN X0 hx (hb hby d2_65) rfl 66 rfl ?_
    refine own_iconst X0 hx (hb hby d2_66) (4 : Int32) rfl 67 rfl ?_
    refine own_icmpN X0 hx (hb hby d2_67) (teq (by decide)).2 70 rfl ?_
    refine own_iconst X0 hx (hb hby d2_70) (4 : Int32) rfl 71 rfl ?_
    refine own_newJ X0 hx hZ (own_w hw 10 rfl) e0 (hb hby d2_71) 4 rfl 4 (by decide) (by decide) (by decide) (by decide) 73 rfl (fun T38 h38 a38 g38 X38 e38 E38 V38 => ?_)
    have ge39 : n0 ≤ a38 := by rw [g38]; exact Z0
    have Z40 : n0 ≤ h38.size := Nat.le_trans Z0 E38.1
    rw [show (List.replicate 4 (0 : Int64)) = [(0 : Int64), (0 : Int64), (0 : Int64), (0 : Int64)] from rfl] at V38
    have K0 : Keep h0 h38 [] := (Keep.refl _ _).ext E38
    refine own_dup X38 hx (hb hby d2_73) rfl 74 rfl ?_
    refine own_iconst X38 hx (hb hby d2_74) (0 : Int32) rfl 75 rfl ?_
    refine own_lconst X38 hx (hb hby d2_75) (1 : Int64) rfl 76 rfl ?_
    refine own_lastore X38 hx hZ e38 V38 0 rfl (by simp) (hb hby d2_76) 77 rfl (fun T41 h41 X41 e41 W41 V41 => ?_)
    rw [show [(0 : Int64), (0 : Int64), (0 : Int64), (0 : Int64)].set 0 (1 : Int64) = [(1 : Int64), (0 : Int64), (0 : Int64), (0 : Int64)] from rfl] at V41
    have N42 := Fr.snoc X41 N0 ge39
    have Z43 : n0 ≤ h41.size := by rw [W41.size]; exact Z40
    have K44 := Keep.wr K0 W41 (Or.inr (Nat.le_of_eq g38.symm))
    refine own_dup X41 hx (hb hby d2_77) rfl 78 rfl ?_
    refine own_iconst X41 hx (hb hby d2_78) (1 : Int32) rfl 79 rfl ?_
    refine own_ldc2Long X41 hx hown (mvT hZ (own_w hw 18 rfl)) (hb hby d2_79) 82 rfl ?_
    refine own_lastore X41 hx hZ e41 V41 1 rfl (by simp) (hb hby d2_82) 83 rfl (fun T45 h45 X45 e45 W45 V45 => ?_)
    rw [show [(1 : Int64), (0 : Int64), (0 : Int64), (0 : Int64)].set 1 (2 : Int64) = [(1 : Int64), (2 : Int64), (0 : Int64), (0 : Int64)] from rfl] at V45
    have N46 := Fr.snoc X45 N42 ge39
    have Z47 : n0 ≤ h45.size := by rw [W45.size]; exact Z43
    have K48 := Keep.wr K44 W45 (Or.inr (Nat.le_of_eq g38.symm))
    refine own_dup X45 hx (hb hby d2_83) rfl 84 rfl ?_
    refine own_iconst X45 hx (hb hby d2_84) (2 : Int32) rfl 85 rfl ?_
    refine own_ldc2Long X45 hx hown (mvT hZ (own_w hw 19 rfl)) (hb hby d2_85) 88 rfl ?_
    refine own_lastore X45 hx hZ e45 V45 2 rfl (by simp) (hb hby d2_88) 89 rfl (fun T49 h49 X49 e49 W49 V49 => ?_)
    rw [show [(1 : Int64), (2 : Int64), (0 : Int64), (0 : Int64)].set 2 (4 : Int64) = [(1 : Int64), (2 : Int64), (4 : Int64), (0 : Int64)] from rfl] at V49
    have N50 := Fr.snoc X49 N46 ge39
    have Z51 : n0 ≤ h49.size := by rw [W49.size]; exact Z47
    have K52 := Keep.wr K48 W49 (Or.inr (Nat.le_of_eq g38.symm))
    refine own_dup X49 hx (hb hby d2_89) rfl 90 rfl ?_
    refine own_iconst X49 hx (hb hby d2_90) (3 : Int32) rfl 91 rfl ?_
    refine own_ldc2Long X49 hx hown (mvT hZ (own_w hw 20 rfl)) (hb hby d2_91) 94 rfl ?_
    refine own_lastore X49 hx hZ e49 V49 3 rfl (by simp) (hb hby d2_94) 95 rfl (fun T53 h53 X53 e53 W53 V53 => ?_)
    rw [show [(1 : Int64), (2 : Int64), (4 : Int64), (0 : Int64)].set 3 (8 : Int64) = [(1 : Int64), (2 : Int64), (4 : Int64), (8 : Int64)] from rfl] at V53
    have N54 := Fr.snoc X53 N50 ge39
    have Z55 : n0 ≤ h53.size := by rw [W53.size]; exact Z51
    have K56 := Keep.wr K52 W53 (Or.inr (Nat.le_of_eq g38.symm))
    refine own_areturn X53 hx Bd.notSynchronized hG Bd.returns rfl rfl rfl (hb hby d2_95) (by decide) (by decide) ?_
    rw [e53]
    exact ⟨_, _, rfl, N54, K56, V53, rfl⟩
  ·
    show own_Go p e below G (s₁.setTop (mkF m 0 #[.val (.int (5 : Int32))] []))
    refine own_iloadN X0 hx (hb hby d2_0) rfl 1 rfl ?_
    refine own_ifY X0 hx (hb hby d2_1) ((if0 _ _).trans (feq (by decide)).2) 8 ⟨by decide, by decide⟩ ?_
    refine own_iloadN X0 hx (hb hby d2_8) rfl 9 rfl ?_
    refine own_iconst X0 hx (hb hby d2_9) (1 : Int32) rfl 10 rfl ?_
    refine own_icmpY X0 hx (hb hby d2_10) (feq (by decide)).2 21 ⟨by decide, by decide⟩ ?_
    refine own_iloadN X0 hx (hb hby d2_21) rfl 22 rfl ?_
    refine own_iconst X0 hx (hb hby d2_22) (2 : Int32) rfl 23 rfl ?_
    refine own_icmpY X0 hx (hb hby d2_23) (feq (by decide)).2 40 ⟨by decide, by decide⟩ ?_
    refine own_iloadN X0 hx (hb hby d2_40) rfl 41 rfl ?_
    refine own_iconst X0 hx (hb hby d2_41) (3 : Int32) rfl 42 rfl ?_
    refine own_icmpY X0 hx (hb hby d2_42) (feq (by decide)).2 65 ⟨by decide, by decide⟩ ?_
    refine own_iloadN X0 hx (hb hby d2_65) rfl 66 rfl ?_
    refine own_iconst X0 hx (hb hby d2_66) (4 : Int32) rfl 67 rfl ?_
    refine own_icmpY X0 hx (hb hby d2_67) (feq (by decide)).2 96 ⟨by decide, by decide⟩ ?_
    refine own_iloadN X0 hx (hb hby d2_96) rfl 97 rfl ?_
    refine own_iconst X0 hx (hb hby d2_97) (5 : Int32) rfl 98 rfl ?_
    refine own_icmpN X0 hx (hb hby d2_98) (teq (by decide)).2 101 rfl ?_
    refine own_iconst X0 hx (hb hby d2_101) (5 : Int32) rfl 102 rfl ?_
    refine own_newJ X0 hx hZ (own_w hw 10 rfl) e0 (hb hby d2_102) 5 rfl 5 (by decide) (by decide) (by decide) (by decide) 104 rfl (fun T57 h57 a57 g57 X57 e57 E57 V57 => ?_)
    have ge58 : n0 ≤ a57 := by rw [g57]; exact Z0
    have Z59 : n0 ≤ h57.size := Nat.le_trans Z0 E57.1
    rw [show (List.replicate 5 (0 : Int64)) = [(0 : Int64), (0 : Int64), (0 : Int64), (0 : Int64), (0 : Int64)] from rfl] at V57
    have K0 : Keep h0 h57 [] := (Keep.refl _ _).ext E57
    refine own_dup X57 hx (hb hby d2_104) rfl 105 rfl ?_
    refine own_iconst X57 hx (hb hby d2_105) (0 : Int32) rfl 106 rfl ?_
    refine own_lconst X57 hx (hb hby d2_106) (1 : Int64) rfl 107 rfl ?_
    refine own_lastore X57 hx hZ e57 V57 0 rfl (by simp) (hb hby d2_107) 108 rfl (fun T60 h60 X60 e60 W60 V60 => ?_)
    rw [show [(0 : Int64), (0 : Int64), (0 : Int64), (0 : Int64), (0 : Int64)].set 0 (1 : Int64) = [(1 : Int64), (0 : Int64), (0 : Int64), (0 : Int64), (0 : Int64)] from rfl] at V60
    have N61 := Fr.snoc X60 N0 ge58
    have Z62 : n0 ≤ h60.size := by rw [W60.size]; exact Z59
    have K63 := Keep.wr K0 W60 (Or.inr (Nat.le_of_eq g57.symm))
    refine own_dup X60 hx (hb hby d2_108) rfl 109 rfl ?_
    refine own_iconst X60 hx (hb hby d2_109) (1 : Int32) rfl 110 rfl ?_
    refine own_ldc2Long X60 hx hown (mvT hZ (own_w hw 18 rfl)) (hb hby d2_110) 113 rfl ?_
    refine own_lastore X60 hx hZ e60 V60 1 rfl (by simp) (hb hby d2_113) 114 rfl (fun T64 h64 X64 e64 W64 V64 => ?_)
    rw [show [(1 : Int64), (0 : Int64), (0 : Int64), (0 : Int64), (0 : Int64)].set 1 (2 : Int64) = [(1 : Int64), (2 : Int64), (0 : Int64), (0 : Int64), (0 : Int64)] from rfl] at V64
    have N65 := Fr.snoc X64 N61 ge58
    have Z66 : n0 ≤ h64.size := by rw [W64.size]; exact Z62
    have K67 := Keep.wr K63 W64 (Or.inr (Nat.le_of_eq g57.symm))
    refine own_dup X64 hx (hb hby d2_114) rfl 115 rfl ?_
    refine own_iconst X64 hx (hb hby d2_115) (2 : Int32) rfl 116 rfl ?_
    refine own_ldc2Long X64 hx hown (mvT hZ (own_w hw 19 rfl)) (hb hby d2_116) 119 rfl ?_
    refine own_lastore X64 hx hZ e64 V64 2 rfl (by simp) (hb hby d2_119) 120 rfl (fun T68 h68 X68 e68 W68 V68 => ?_)
    rw [show [(1 : Int64), (2 : Int64), (0 : Int64), (0 : Int64), (0 : Int64)].set 2 (4 : Int64) = [(1 : Int64), (2 : Int64), (4 : Int64), (0 : Int64), (0 : Int64)] from rfl] at V68
    have N69 := Fr.snoc X68 N65 ge58
    have Z70 : n0 ≤ h68.size := by rw [W68.size]; exact Z66
    have K71 := Keep.wr K67 W68 (Or.inr (Nat.le_of_eq g57.symm))
    refine own_dup X68 hx (hb hby d2_120) rfl 121 rfl ?_
    refine own_iconst X68 hx (hb hby d2_121) (3 : Int32) rfl 122 rfl ?_
    refine own_ldc2Long X68 hx hown (mvT hZ (own_w hw 20 rfl)) (hb hby d2_122) 125 rfl ?_
    refine own_lastore X68 hx hZ e68 V68 3 rfl (by simp) (hb hby d2_125) 126 rfl (fun T72 h72 X72 e72 W72 V72 => ?_)
    rw [show [(1 : Int64), (2 : Int64), (4 : Int64), (0 : Int64), (0 : Int64)].set 3 (8 : Int64) = [(1 : Int64), (2 : Int64), (4 : Int64), (8 : Int64), (0 : Int64)] from rfl] at V72
    have N73 := Fr.snoc X72 N69 ge58
    have Z74 : n0 ≤ h72.size := by rw [W72.size]; exact Z70
    have K75 := Keep.wr K71 W72 (Or.inr (Nat.le_of_eq g57.symm))
    refine own_dup X72 hx (hb hby d2_126) rfl 127 rfl ?_
    refine own_iconst X72 hx (hb hby d2_127) (4 : Int32) rfl 128 rfl ?_
    refine own_ldc2Long X72 hx hown (mvT hZ (own_w hw 24 rfl)) (hb hby d2_128) 131 rfl ?_
    refine own_lastore X72 hx hZ e72 V72 4 rfl (by simp) (hb hby d2_131) 132 rfl (fun T76 h76 X76 e76 W76 V76 => ?_)
    rw [show [(1 : Int64), (2 : Int64), (4 : Int64), (8 : Int64), (0 : Int64)].set 4 (16 : Int64) = [(1 : Int64), (2 : Int64), (4 : Int64), (8 : Int64), (16 : Int64)] from rfl] at V76
    have N77 := Fr.snoc X76 N73 ge58
    have Z78 : n0 ≤ h76.size := by rw [W76.size]; exact Z74
    have K79 := Keep.wr K75 W76 (Or.inr (Nat.le_of_eq g57.symm))
    refine own_areturn X76 hx Bd.notSynchronized hG Bd.returns rfl rfl rfl (hb hby d2_132) (by decide) (by decide) ?_
    rw [e76]
    exact ⟨_, _, rfl, N77, K79, V76, rfl⟩
  ·
    show own_Go p e below G (s₁.setTop (mkF m 0 #[.val (.int (6 : Int32))] []))
    refine own_iloadN X0 hx (hb hby d2_0) rfl 1 rfl ?_
    refine own_ifY X0 hx (hb hby d2_1) ((if0 _ _).trans (feq (by decide)).2) 8 ⟨by decide, by decide⟩ ?_
    refine own_iloadN X0 hx (hb hby d2_8) rfl 9 rfl ?_
    refine own_iconst X0 hx (hb hby d2_9) (1 : Int32) rfl 10 rfl ?_
    refine own_icmpY X0 hx (hb hby d2_10) (feq (by decide)).2 21 ⟨by decide, by decide⟩ ?_
    refine own_iloadN X0 hx (hb hby d2_21) rfl 22 rfl ?_
    refine own_iconst X0 hx (hb hby d2_22) (2 : Int32) rfl 23 rfl ?_
    refine own_icmpY X0 hx (hb hby d2_23) (feq (by decide)).2 40 ⟨by decide, by decide⟩ ?_
    refine own_iloadN X0 hx (hb hby d2_40) rfl 41 rfl ?_
    refine own_iconst X0 hx (hb hby d2_41) (3 : Int32) rfl 42 rfl ?_
    refine own_icmpY X0 hx (hb hby d2_42) (feq (by decide)).2 65 ⟨by decide, by decide⟩ ?_
    refine own_iloadN X0 hx (hb hby d2_65) rfl 66 rfl ?_
    refine own_iconst X0 hx (hb hby d2_66) (4 : Int32) rfl 67 rfl ?_
    refine own_icmpY X0 hx (hb hby d2_67) (feq (by decide)).2 96 ⟨by decide, by decide⟩ ?_
    refine own_iloadN X0 hx (hb hby d2_96) rfl 97 rfl ?_
    refine own_iconst X0 hx (hb hby d2_97) (5 : Int32) rfl 98 rfl ?_
    refine own_icmpY X0 hx (hb hby d2_98) (feq (by decide)).2 133 ⟨by decide, by decide⟩ ?_
    refine own_iloadN X0 hx (hb hby d2_133) rfl 134 rfl ?_
    refine own_bipush X0 hx (hb hby d2_134) (6 : Int32) rfl 136 rfl ?_
    refine own_icmpN X0 hx (hb hby d2_136) (teq (by decide)).2 139 rfl ?_
    refine own_bipush X0 hx (hb hby d2_139) (6 : Int32) rfl 141 rfl ?_
    refine own_newJ X0 hx hZ (own_w hw 10 rfl) e0 (hb hby d2_141) 6 rfl 6 (by decide) (by decide) (by decide) (by decide) 143 rfl (fun T80 h80 a80 g80 X80 e80 E80 V80 => ?_)
    have ge81 : n0 ≤ a80 := by rw [g80]; exact Z0
    have Z82 : n0 ≤ h80.size := Nat.le_trans Z0 E80.1
    rw [show (List.replicate 6 (0 : Int64)) = [(0 : Int64), (0 : Int64), (0 : Int64), (0 : Int64), (0 : Int64), (0 : Int64)] from rfl] at V80
    have K0 : Keep h0 h80 [] := (Keep.refl _ _).ext E80
    refine own_dup X80 hx (hb hby d2_143) rfl 144 rfl ?_
    refine own_iconst X80 hx (hb hby d2_144) (0 : Int32) rfl 145 rfl ?_
    refine own_lconst X80 hx (hb hby d2_145) (1 : Int64) rfl 146 rfl ?_
    refine own_lastore X80 hx hZ e80 V80 0 rfl (by simp) (hb hby d2_146) 147 rfl (fun T83 h83 X83 e83 W83 V83 => ?_)
    rw [show [(0 : Int64), (0 : Int64), (0 : Int64), (0 : Int64), (0 : Int64), (0 : Int64)].set 0 (1 : Int64) = [(1 : Int64), (0 : Int64), (0 : Int64), (0 : Int64), (0 : Int64), (0 : Int64)] from rfl] at V83
    have N84 := Fr.snoc X83 N0 ge81
    have Z85 : n0 ≤ h83.size := by rw [W83.size]; exact Z82
    have K86 := Keep.wr K0 W83 (Or.inr (Nat.le_of_eq g80.symm))
    refine own_dup X83 hx (hb hby d2_147) rfl 148 rfl ?_
    refine own_iconst X83 hx (hb hby d2_148) (1 : Int32) rfl 149 rfl ?_
    refine own_ldc2Long X83 hx hown (mvT hZ (own_w hw 18 rfl)) (hb hby d2_149) 152 rfl ?_
    refine own_lastore X83 hx hZ e83 V83 1 rfl (by simp) (hb hby d2_152) 153 rfl (fun T87 h87 X87 e87 W87 V87 => ?_)
    rw [show [(1 : Int64), (0 : Int64), (0 : Int64), (0 : Int64), (0 : Int64), (0 : Int64)].set 1 (2 : Int64) = [(1 : Int64), (2 : Int64), (0 : Int64), (0 : Int64), (0 : Int64), (0 : Int64)] from rfl] at V87
    have N88 := Fr.snoc X87 N84 ge81
    have Z89 : n0 ≤ h87.size := by rw [W87.size]; exact Z85
    have K90 := Keep.wr K86 W87 (Or.inr (Nat.le_of_eq g80.symm))
    refine own_dup X87 hx (hb hby d2_153) rfl 154 rfl ?_
    refine own_iconst X87 hx (hb hby d2_154) (2 : Int32) rfl 155 rfl ?_
    refine own_ldc2Long X87 hx hown (mvT hZ (own_w hw 19 rfl)) (hb hby d2_155) 158 rfl ?_
    refine own_lastore X87 hx hZ e87 V87 2 rfl (by simp) (hb hby d2_158) 159 rfl (fun T91 h91 X91 e91 W91 V91 => ?_)
    rw [show [(1 : Int64), (2 : Int64), (0 : Int64), (0 : Int64), (0 : Int64), (0 : Int64)].set 2 (4 : Int64) = [(1 : Int64), (2 : Int64), (4 : Int64), (0 : Int64), (0 : Int64), (0 : Int64)] from rfl] at V91
    have N92 := Fr.snoc X91 N88 ge81
    have Z93 : n0 ≤ h91.size := by rw [W91.size]; exact Z89
    have K94 := Keep.wr K90 W91 (Or.inr (Nat.le_of_eq g80.symm))
    refine own_dup X91 hx (hb hby d2_159) rfl 160 rfl ?_
    refine own_iconst X91 hx (hb hby d2_160) (3 : Int32) rfl 161 rfl ?_
    refine own_ldc2Long X91 hx hown (mvT hZ (own_w hw 20 rfl)) (hb hby d2_161) 164 rfl ?_
    refine own_lastore X91 hx hZ e91 V91 3 rfl (by simp) (hb hby d2_164) 165 rfl (fun T95 h95 X95 e95 W95 V95 => ?_)
    rw [show [(1 : Int64), (2 : Int64), (4 : Int64), (0 : Int64), (0 : Int64), (0 : Int64)].set 3 (8 : Int64) = [(1 : Int64), (2 : Int64), (4 : Int64), (8 : Int64), (0 : Int64), (0 : Int64)] from rfl] at V95
    have N96 := Fr.snoc X95 N92 ge81
    have Z97 : n0 ≤ h95.size := by rw [W95.size]; exact Z93
    have K98 := Keep.wr K94 W95 (Or.inr (Nat.le_of_eq g80.symm))
    refine own_dup X95 hx (hb hby d2_165) rfl 166 rfl ?_
    refine own_iconst X95 hx (hb hby d2_166) (4 : Int32) rfl 167 rfl ?_
    refine own_ldc2Long X95 hx hown (mvT hZ (own_w hw 24 rfl)) (hb hby d2_167) 170 rfl ?_
    refine own_lastore X95 hx hZ e95 V95 4 rfl (by simp) (hb hby d2_170) 171 rfl (fun T99 h99 X99 e99 W99 V99 => ?_)
    rw [show [(1 : Int64), (2 : Int64), (4 : Int64), (8 : Int64), (0 : Int64), (0 : Int64)].set 4 (16 : Int64) = [(1 : Int64), (2 : Int64), (4 : Int64), (8 : Int64), (16 : Int64), (0 : Int64)] from rfl] at V99
    have N100 := Fr.snoc X99 N96 ge81
    have Z101 : n0 ≤ h99.size := by rw [W99.size]; exact Z97
    have K102 := Keep.wr K98 W99 (Or.inr (Nat.le_of_eq g80.symm))
    refine own_dup X99 hx (hb hby d2_171) rfl 172 rfl ?_
    refine own_iconst X99 hx (hb hby d2_172) (5 : Int32) rfl 173 rfl ?_
    refine own_ldc2Long X99 hx hown (mvT hZ (own_w hw 25 rfl)) (hb hby d2_173) 176 rfl ?_
    refine own_lastore X99 hx hZ e99 V99 5 rfl (by simp) (hb hby d2_176) 177 rfl (fun T103 h103 X103 e103 W103 V103 => ?_)
    rw [show [(1 : Int64), (2 : Int64), (4 : Int64), (8 : Int64), (16 : Int64), (0 : Int64)].set 5 (32 : Int64) = [(1 : Int64), (2 : Int64), (4 : Int64), (8 : Int64), (16 : Int64), (32 : Int64)] from rfl] at V103
    have N104 := Fr.snoc X103 N100 ge81
    have Z105 : n0 ≤ h103.size := by rw [W103.size]; exact Z101
    have K106 := Keep.wr K102 W103 (Or.inr (Nat.le_of_eq g80.symm))
    refine own_areturn X103 hx Bd.notSynchronized hG Bd.returns rfl rfl rfl (hb hby d2_177) (by decide) (by decide) ?_
    rw [e103]
    exact ⟨_, _, rfl, N104, K106, V103, rfl⟩
  ·
    show own_Go p e below G (s₁.setTop (mkF m 0 #[.val (.int (7 : Int32))] []))
    refine own_iloadN X0 hx (hb hby d2_0) rfl 1 rfl ?_
    refine own_ifY X0 hx (hb hby d2_1) ((if0 _ _).trans (feq (by decide)).2) 8 ⟨by decide, by decide⟩ ?_
    refine own_iloadN X0 hx (hb hby d2_8) rfl 9 rfl ?_
    refine own_iconst X0 hx (hb hby d2_9) (1 : Int32) rfl 10 rfl ?_
    refine own_icmpY X0 hx (hb hby d2_10) (feq (by decide)).2 21 ⟨by decide, by decide⟩ ?_
    refine own_iloadN X0 hx (hb hby d2_21) rfl 22 rfl ?_
    refine own_iconst X0 hx (hb hby d2_22) (2 : Int32) rfl 23 rfl ?_
    refine own_icmpY X0 hx (hb hby d2_23) (feq (by decide)).2 40 ⟨by decide, by decide⟩ ?_
    refine own_iloadN X0 hx (hb hby d2_40) rfl 41 rfl ?_
    refine own_iconst X0 hx (hb hby d2_41) (3 : Int32) rfl 42 rfl ?_
    refine own_icmpY X0 hx (hb hby d2_42) (feq (by decide)).2 65 ⟨by decide, by decide⟩ ?_
    refine own_iloadN X0 hx (hb hby d2_65) rfl 66 rfl ?_
    refine own_iconst X0 hx (hb hby d2_66) (4 : Int32) rfl 67 rfl ?_
    refine own_icmpY X0 hx (hb hby d2_67) (feq (by decide)).2 96 ⟨by decide, by decide⟩ ?_
    refine own_iloadN X0 hx (hb hby d2_96) rfl 97 rfl ?_
    refine own_iconst X0 hx (hb hby d2_97) (5 : Int32) rfl 98 rfl ?_
    refine own_icmpY X0 hx (hb hby d2_98) (feq (by decide)).2 133 ⟨by decide, by decide⟩ ?_
    refine own_iloadN X0 hx (hb hby d2_133) rfl 134 rfl ?_
    refine own_bipush X0 hx (hb hby d2_134) (6 : Int32) rfl 136 rfl ?_
    refine own_icmpY X0 hx (hb hby d2_136) (feq (by decide)).2 178 ⟨by decide, by decide⟩ ?_
    refine own_bipush X0 hx (hb hby d2_178) (7 : Int32) rfl 180 rfl ?_
    refine own_newJ X0 hx hZ (own_w hw 10 rfl) e0 (hb hby d2_180) 7 rfl 7 (by decide) (by decide) (by decide) (by decide) 182 rfl (fun T107 h107 a107 g107 X107 e107 E107 V107 => ?_)
    have ge108 : n0 ≤ a107 := by rw [g107]; exact Z0
    have Z109 : n0 ≤ h107.size := Nat.le_trans Z0 E107.1
    rw [show (List.replicate 7 (0 : Int64)) = [(0 : Int64), (0 : Int64), (0 : Int64), (0 : Int64), (0 : Int64), (0 : Int64), (0 : Int64)] from rfl] at V107
    have K0 : Keep h0 h107 [] := (Keep.refl _ _).ext E107
    refine own_dup X107 hx (hb hby d2_182) rfl 183 rfl ?_
    refine own_iconst X107 hx (hb hby d2_183) (0 : Int32) rfl 184 rfl ?_
    refine own_lconst X107 hx (hb hby d2_184) (1 : Int64) rfl 185 rfl ?_
    refine own_lastore X107 hx hZ e107 V107 0 rfl (by simp) (hb hby d2_185) 186 rfl (fun T110 h110 X110 e110 W110 V110 => ?_)
    rw [show [(0 : Int64), (0 : Int64), (0 : Int64), (0 : Int64), (0 : Int64), (0 : Int64), (0 : Int64)].set 0 (1 : Int64) = [(1 : Int64), (0 : Int64), (0 : Int64), (0 : Int64), (0 : Int64), (0 : Int64), (0 : Int64)] from rfl] at V110
    have N111 := Fr.snoc X110 N0 ge108
    have Z112 : n0 ≤ h110.size := by rw [W110.size]; exact Z109
    have K113 := Keep.wr K0 W110 (Or.inr (Nat.le_of_eq g107.symm))
    refine own_dup X110 hx (hb hby d2_186) rfl 187 rfl ?_
    refine own_iconst X110 hx (hb hby d2_187) (1 : Int32) rfl 188 rfl ?_
    refine own_ldc2Long X110 hx hown (mvT hZ (own_w hw 18 rfl)) (hb hby d2_188) 191 rfl ?_
    refine own_lastore X110 hx hZ e110 V110 1 rfl (by simp) (hb hby d2_191) 192 rfl (fun T114 h114 X114 e114 W114 V114 => ?_)
    rw [show [(1 : Int64), (0 : Int64), (0 : Int64), (0 : Int64), (0 : Int64), (0 : Int64), (0 : Int64)].set 1 (2 : Int64) = [(1 : Int64), (2 : Int64), (0 : Int64), (0 : Int64), (0 : Int64), (0 : Int64), (0 : Int64)] from rfl] at V114
    have N115 := Fr.snoc X114 N111 ge108
    have Z116 : n0 ≤ h114.size := by rw [W114.size]; exact Z112
    have K117 := Keep.wr K113 W114 (Or.inr (Nat.le_of_eq g107.symm))
    refine own_dup X114 hx (hb hby d2_192) rfl 193 rfl ?_
    refine own_iconst X114 hx (hb hby d2_193) (2 : Int32) rfl 194 rfl ?_
    refine own_ldc2Long X114 hx hown (mvT hZ (own_w hw 19 rfl)) (hb hby d2_194) 197 rfl ?_
    refine own_lastore X114 hx hZ e114 V114 2 rfl (by simp) (hb hby d2_197) 198 rfl (fun T118 h118 X118 e118 W118 V118 => ?_)
    rw [show [(1 : Int64), (2 : Int64), (0 : Int64), (0 : Int64), (0 : Int64), (0 : Int64), (0 : Int64)].set 2 (4 : Int64) = [(1 : Int64), (2 : Int64), (4 : Int64), (0 : Int64), (0 : Int64), (0 : Int64), (0 : Int64)] from rfl] at V118
    have N119 := Fr.snoc X118 N115 ge108
    have Z120 : n0 ≤ h118.size := by rw [W118.size]; exact Z116
    have K121 := Keep.wr K117 W118 (Or.inr (Nat.le_of_eq g107.symm))
    refine own_dup X118 hx (hb hby d2_198) rfl 199 rfl ?_
    refine own_iconst X118 hx (hb hby d2_199) (3 : Int32) rfl 200 rfl ?_
    refine own_ldc2Long X118 hx hown (mvT hZ (own_w hw 20 rfl)) (hb hby d2_200) 203 rfl ?_
    refine own_lastore X118 hx hZ e118 V118 3 rfl (by simp) (hb hby d2_203) 204 rfl (fun T122 h122 X122 e122 W122 V122 => ?_)
    rw [show [(1 : Int64), (2 : Int64), (4 : Int64), (0 : Int64), (0 : Int64), (0 : Int64), (0 : Int64)].set 3 (8 : Int64) = [(1 : Int64), (2 : Int64), (4 : Int64), (8 : Int64), (0 : Int64), (0 : Int64), (0 : Int64)] from rfl] at V122
    have N123 := Fr.snoc X122 N119 ge108
    have Z124 : n0 ≤ h122.size := by rw [W122.size]; exact Z120
    have K125 := Keep.wr K121 W122 (Or.inr (Nat.le_of_eq g107.symm))
    refine own_dup X122 hx (hb hby d2_204) rfl 205 rfl ?_
    refine own_iconst X122 hx (hb hby d2_205) (4 : Int32) rfl 206 rfl ?_
    refine own_ldc2Long X122 hx hown (mvT hZ (own_w hw 24 rfl)) (hb hby d2_206) 209 rfl ?_
    refine own_lastore X122 hx hZ e122 V122 4 rfl (by simp) (hb hby d2_209) 210 rfl (fun T126 h126 X126 e126 W126 V126 => ?_)
    rw [show [(1 : Int64), (2 : Int64), (4 : Int64), (8 : Int64), (0 : Int64), (0 : Int64), (0 : Int64)].set 4 (16 : Int64) = [(1 : Int64), (2 : Int64), (4 : Int64), (8 : Int64), (16 : Int64), (0 : Int64), (0 : Int64)] from rfl] at V126
    have N127 := Fr.snoc X126 N123 ge108
    have Z128 : n0 ≤ h126.size := by rw [W126.size]; exact Z124
    have K129 := Keep.wr K125 W126 (Or.inr (Nat.le_of_eq g107.symm))
    refine own_dup X126 hx (hb hby d2_210) rfl 211 rfl ?_
    refine own_iconst X126 hx (hb hby d2_211) (5 : Int32) rfl 212 rfl ?_
    refine own_ldc2Long X126 hx hown (mvT hZ (own_w hw 25 rfl)) (hb hby d2_212) 215 rfl ?_
    refine own_lastore X126 hx hZ e126 V126 5 rfl (by simp) (hb hby d2_215) 216 rfl (fun T130 h130 X130 e130 W130 V130 => ?_)
    rw [show [(1 : Int64), (2 : Int64), (4 : Int64), (8 : Int64), (16 : Int64), (0 : Int64), (0 : Int64)].set 5 (32 : Int64) = [(1 : Int64), (2 : Int64), (4 : Int64), (8 : Int64), (16 : Int64), (32 : Int64), (0 : Int64)] from rfl] at V130
    have N131 := Fr.snoc X130 N127 ge108
    have Z132 : n0 ≤ h130.size := by rw [W130.size]; exact Z128
    have K133 := Keep.wr K129 W130 (Or.inr (Nat.le_of_eq g107.symm))
    refine own_dup X130 hx (hb hby d2_216) rfl 217 rfl ?_
    refine own_bipush X130 hx (hb hby d2_217) (6 : Int32) rfl 219 rfl ?_
    refine own_ldc2Long X130 hx hown (mvT hZ (own_w hw 26 rfl)) (hb hby d2_219) 222 rfl ?_
    refine own_lastore X130 hx hZ e130 V130 6 rfl (by simp) (hb hby d2_222) 223 rfl (fun T134 h134 X134 e134 W134 V134 => ?_)
    rw [show [(1 : Int64), (2 : Int64), (4 : Int64), (8 : Int64), (16 : Int64), (32 : Int64), (0 : Int64)].set 6 (64 : Int64) = [(1 : Int64), (2 : Int64), (4 : Int64), (8 : Int64), (16 : Int64), (32 : Int64), (64 : Int64)] from rfl] at V134
    have N135 := Fr.snoc X134 N131 ge108
    have Z136 : n0 ≤ h134.size := by rw [W134.size]; exact Z132
    have K137 := Keep.wr K133 W134 (Or.inr (Nat.le_of_eq g107.symm))
    refine own_areturn X134 hx Bd.notSynchronized hG Bd.returns rfl rfl rfl (hb hby d2_223) (by decide) (by decide) ?_
    rw [e134]
    exact ⟨_, _, rfl, N135, K137, V134, rfl⟩
def Q3 (Z : State) (Lc : List Int64) (K : List Int32) (h0 : Heap) (n0 : Nat) (v : Option Value) (h : Heap) (L : List Loc) : Prop := ∃ (r : Addr), v = some (.ref r) ∧ Fr n0 L ∧ Keep h0 h [] ∧ own_A .int Value.int Z h r ((List.range Lc.length).map fun c => Int32.ofNat (own_first K c))
theorem ef_rm3 (m : MethodId) (x0 : Addr) (x1 : Addr) : entryFrame m #[(.ref x0), (.ref x1)] 5 = mkF m 0 #[.val (.ref x0), .val (.ref x1), .unset, .unset, .unset] [] := by first | (simp [entryFrame, mkF, argsToLocals, Value.category, maxLocals]; done) | rfl
set_option maxRecDepth 65536 in
set_option maxHeartbeats 40000000 in
theorem rm3 (l : Launch) (Z : State) (a0 : Array Value) (hw : ∀ d ∈ tables_1, d.before a0 Z = true) (ws : List Jvm.Cond) (a b : Addr) (Lc : List Int64) (K : List Int32) (h0 : Heap) (n0 : Nat) (Z0 : n0 ≤ h0.size) (Va : own_A .long Value.long Z h0 a Lc) (Vb : own_A .int Value.int Z h0 b K) (hlen : Lc.length ≤ 7) (hKl : K.length ≤ 4) (hKK : ∀ c, c < Lc.length → own_first K c < K.length) :
    MetFree l own_y3 (head1 (Jvm.Cond.code own_y3 prog_58_method_3_code 5 (some (.array .int)) :: ws) ({ frames := 0, cells := 1, slots := 7, locals := 0 } : Room)) (fun aR U => aR = #[(.ref a), (.ref b)] ∧ Z.Warmed39 U.vm ∧ U.heap = h0) (fun _ _ _ _ _ => True) (fun _ U o U' => ∃ v L, o = .returned v ∧ Q3 Z Lc K h0 n0 v U'.heap L ∧ FrameEnd U o U' L ({ frames := 0, cells := 1, slots := 7, locals := 0 } : Room).cells ({ frames := 0, cells := 1, slots := 7, locals := 0 } : Room).slots) := by
  refine MetFree.of_bodySF pf_3 hisR ?_
  intro p e s m args below meth c s₁ Bd hml0 hP hK
  obtain ⟨rfl, hZ, hhE⟩ := hP
  have hx := Bd.exec
  have hby := Bd.bytes
  have hml : c.maxLocals = 5 := hml0
  have hown : s.vm.findClass "com/example/equitide/equitide/policy/backfilling/CountBoundsTree" = some m.cls := findClass_of_methodNamed Bd.named
  have hnm := (name_of_methodNamed Bd.named Bd.method).1
  have X0 : Stand p l e ({ frames := 0, cells := 1, slots := 7, locals := 0 } : Room) s m #[(.ref a), (.ref b)] below meth c s₁ [] 0 0 := Stand.of_body Bd
  have e0 : s₁.heap = h0 := by rw [← hhE, Bd.state]; rfl
  have N0 := Fr.nil n0
  show own_Go p e below (own_Post s (Q3 Z Lc K h0 n0) ({ frames := 0, cells := 1, slots := 7, locals := 0 } : Room).cells ({ frames := 0, cells := 1, slots := 7, locals := 0 } : Room).slots) (s₁.setTop (entryFrame m #[(.ref a), (.ref b)] 5))
  rw [ef_rm3]
  generalize hG : own_Post s (Q3 Z Lc K h0 n0) ({ frames := 0, cells := 1, slots := 7, locals := 0 } : Room).cells ({ frames := 0, cells := 1, slots := 7, locals := 0 } : Room).slots = G
  refine own_aloadN X0 hx (hb hby d3_0) rfl rfl 1 rfl ?_
  refine own_arraylength X0 hx hZ e0 Va (hb hby d3_1) 2 rfl ?_
  refine own_newI X0 hx hZ (own_w hw 5 rfl) e0 (hb hby d3_2) (List.length Lc) rfl 7 hlen (by decide) (by decide) (by decide) 4 rfl (fun T138 h138 a138 g138 X138 e138 E138 V138 => ?_)
  have ne139 : a ≠ a138 := by rw [g138]; exact Nat.ne_of_lt Va.lt
  have ne140 : b ≠ a138 := by rw [g138]; exact Nat.ne_of_lt Vb.lt
  have ge141 : n0 ≤ a138 := by rw [g138]; exact Z0
  have Z142 : n0 ≤ h138.size := Nat.le_trans Z0 E138.1
  have V143 := Va.ext E138
  have V144 := Vb.ext E138
  rw [own_R0 K] at V138
  have K0 : Keep h0 h138 [] := (Keep.refl _ _).ext E138
  have hr0 : h0.size ≤ a138 := Nat.le_of_eq g138.symm
  refine own_astoreN X138 hx (hb hby d3_4) rfl #[.val (.ref a), .val (.ref b), .val (.ref a138), .unset, .unset] rfl 5 rfl ?_
  have outer : ∀ (d cI sI : Nat) (T' : State) (hh : Heap) (lc : List Loc), cI + d = Lc.length → (cI < Lc.length → sI ≤ own_first K cI) → Stand p l e ({ frames := 0, cells := 1, slots := 7, locals := 0 } : Room) s m #[.ref a, .ref b] below meth c T' lc (0 + 1) (0 + 7) → T'.heap = hh → Fr n0 lc → n0 ≤ hh.size → Keep h0 hh [] → own_A .long Value.long Z hh a Lc → own_A .int Value.int Z hh b K → own_A .int Value.int Z hh a138 (own_R K (List.length Lc) cI) → sI < 2147483648 → own_Go p e below G (T'.setTop (mkF m 10 #[.val (.ref a), .val (.ref b), .val (.ref a138), .val (.int (Int32.ofNat cI)), .val (.int (Int32.ofNat sI))] [])) := by
    intro d
    induction d with
    | zero =>
      intro cI sI T' hh lc hd hs X' e' N' Z' K' Va' Vb' Vr' hsI
      have hcn : cI = List.length Lc := by omega
      subst hcn
      refine own_iloadN X' hx (hb hby d3_10) rfl 11 rfl ?_
      refine own_aloadN X' hx (hb hby d3_11) rfl rfl 12 rfl ?_
      refine own_arraylength X' hx hZ e' Va' (hb hby d3_12) 13 rfl ?_
      refine own_icmpY X' hx (hb hby d3_13) (flt (by rw [own_lt32 (by omega) (by omega)]; omega)).2.1 41 ⟨by decide, by decide⟩ ?_
      refine own_aloadN X' hx (hb hby d3_41) rfl rfl 42 rfl ?_
      rw [own_Rn] at Vr'
      refine own_areturn X' hx Bd.notSynchronized hG Bd.returns rfl rfl rfl (hb hby d3_42) (by decide) (by decide) ?_
      rw [e']
      exact ⟨_, rfl, N', K', Vr'⟩
    | succ d ih =>
      intro cI sI T' hh lc hd hs X' e' N' Z' K' Va' Vb' Vr' hsI
      have hc : cI < List.length Lc := by omega
      have hfi := hKK cI hc
      have rest : own_Go p e below G (T'.setTop (mkF m 30 #[.val (.ref a), .val (.ref b), .val (.ref a138), .val (.int (Int32.ofNat cI)), .val (.int (Int32.ofNat (own_first K cI)))] [])) := by
        refine own_aloadN X' hx (hb hby d3_30) rfl rfl 31 rfl ?_
        refine own_iloadN X' hx (hb hby d3_31) rfl 32 rfl ?_
        refine own_iload X' hx (hb hby d3_32) rfl 34 rfl ?_
        refine own_iastore X' hx hZ e' Vr' cI rfl (by rw [own_Rl K (Nat.le_of_lt hc)]; exact hc) (hb hby d3_34) 35 rfl (fun T145 h145 X145 e145 W145 V145 => ?_)
        rw [show (own_R K (List.length Lc) cI).set cI (Int32.ofNat (own_first K cI)) = (own_R K (List.length Lc) (cI + 1)) from (own_Rset K hc)] at V145
        have N146 := Fr.snoc X145 N' ge141
        have Z147 : n0 ≤ h145.size := by rw [W145.size]; exact Z'
        have V148 := Va'.other W145 ne139
        have V149 := Vb'.other W145 ne140
        refine own_iinc X145 hx (hb hby d3_35) rfl #[.val (.ref a), .val (.ref b), .val (.ref a138), .val (.int ((Int32.ofNat cI) + (1 : Int32))), .val (.int (Int32.ofNat (own_first K cI)))] rfl 38 rfl ?_
        refine own_goto X145 hx (hb hby d3_38) 10 ⟨by decide, by decide⟩ ?_
        rw [show (Int32.ofNat cI) + (1 : Int32) = Int32.ofNat (cI + 1) from (Int32.ofNat_add cI 1).symm]
        exact ih (cI + 1) (own_first K cI) T145 h145 _ (by omega) (fun w => own_mono (by omega) (hKK _ w)) X145 e145 N146 Z147 (Keep.wr K' W145 (Or.inr hr0)) V148 V149 V145 (by omega)
      have inner : ∀ (g sI : Nat), sI + g = own_first K cI → own_Go p e below G (T'.setTop (mkF m 16 #[.val (.ref a), .val (.ref b), .val (.ref a138), .val (.int (Int32.ofNat cI)), .val (.int (Int32.ofNat sI))] [])) := by
        intro g
        induction g with
        | zero =>
          intro sI hg
          have hsf : sI = own_first K cI := by omega
          subst hsf
          obtain ⟨xx, hxx, hnx⟩ := own_there hfi
          refine own_aloadN X' hx (hb hby d3_16) rfl rfl 17 rfl ?_
          refine own_iload X' hx (hb hby d3_17) rfl 19 rfl ?_
          refine own_iaload X' hx hZ e' Vb' (own_first K cI) rfl xx hxx (hb hby d3_19) 20 rfl ?_
          refine own_iloadN X' hx (hb hby d3_20) rfl 21 rfl ?_
          refine own_icmpY X' hx (hb hby d3_21) (flt hnx).2.1 30 ⟨by decide, by decide⟩ ?_
          exact rest
        | succ g ihg =>
          intro sI hg
          obtain ⟨xx, hxx, hnx⟩ := own_before (show sI < own_first K cI by omega)
          refine own_aloadN X' hx (hb hby d3_16) rfl rfl 17 rfl ?_
          refine own_iload X' hx (hb hby d3_17) rfl 19 rfl ?_
          refine own_iaload X' hx hZ e' Vb' sI rfl xx hxx (hb hby d3_19) 20 rfl ?_
          refine own_iloadN X' hx (hb hby d3_20) rfl 21 rfl ?_
          refine own_icmpN X' hx (hb hby d3_21) (tlt hnx).2.1 24 rfl ?_
          refine own_iinc X' hx (hb hby d3_24) rfl #[.val (.ref a), .val (.ref b), .val (.ref a138), .val (.int (Int32.ofNat cI)), .val (.int ((Int32.ofNat sI) + (1 : Int32)))] rfl 27 rfl ?_
          refine own_goto X' hx (hb hby d3_27) 16 ⟨by decide, by decide⟩ ?_
          rw [show (Int32.ofNat sI) + (1 : Int32) = Int32.ofNat (sI + 1) from (Int32.ofNat_add sI 1).symm]
          exact ihg (sI + 1) (by omega)
      refine own_iloadN X' hx (hb hby d3_10) rfl 11 rfl ?_
      refine own_aloadN X' hx (hb hby d3_11) rfl rfl 12 rfl ?_
      refine own_arraylength X' hx hZ e' Va' (hb hby d3_12) 13 rfl ?_
      refine own_icmpN X' hx (hb hby d3_13) (tlt (by rw [own_lt32 (by omega) (by omega)]; omega)).2.1 16 rfl ?_
      exact inner (own_first K cI - sI) sI (by have := hs hc; omega)
  refine own_iconst X138 hx (hb hby d3_5) (0 : Int32) rfl 6 rfl ?_
  refine own_istoreN X138 hx (hb hby d3_6) #[.val (.ref a), .val (.ref b), .val (.ref a138), .val (.int (0 : Int32)), .unset] rfl 7 rfl ?_
  refine own_iconst X138 hx (hb hby d3_7) (0 : Int32) rfl 8 rfl ?_
  refine own_istore X138 hx (hb hby d3_8) #[.val (.ref a), .val (.ref b), .val (.ref a138), .val (.int (0 : Int32)), .val (.int (0 : Int32))] rfl 10 rfl ?_
  exact outer Lc.length 0 0 T138 h138 _ (by omega) (fun _ => Nat.zero_le _) X138 e138 N0 Z142 K0 V143 V144 V138 (by omega)
def QE (K : List Int32) (cI : Nat) (h0 : Heap) (n0 : Nat) (v : Option Value) (h : Heap) (L : List Loc) : Prop := v = some (.int (Int32.ofNat (own_first K cI))) ∧ Fr n0 L ∧ h = h0
def QA (h0 : Heap) (n0 : Nat) (v : Option Value) (h : Heap) (L : List Loc) : Prop := v = some (.int 1) ∧ Fr n0 L ∧ h = h0
theorem ef_rmE1 (m : MethodId) (x0 : Addr) (x1 : Int32) (x2 : Int32) : entryFrame m #[(.ref x0), (.int x1), (.int x2)] 3 = mkF m 0 #[.val (.ref x0), .val (.int x1), .val (.int x2)] [] := by first | (simp [entryFrame, mkF, argsToLocals, Value.category, maxLocals]; done) | rfl
set_option maxRecDepth 65536 in
set_option maxHeartbeats 40000000 in
theorem rmE1 (l : Launch) (Z : State) (a0 : Array Value) (hw : ∀ d ∈ tables_1, d.before a0 Z = true) (ws : List Jvm.Cond) (b : Addr) (cI : Nat) (x0 : Int32) (h0 : Heap) (n0 : Nat) (hl : ¬ x0 < Int32.ofNat cI) (Vb : own_A .int Value.int Z h0 b [x0]) :
    MetFree l own_y5 (head1 (Jvm.Cond.code own_y5 method_5_code 3 (some .int) :: ws) ({ frames := 0, cells := 0, slots := 0, locals := 0 } : Room)) (fun aR U => aR = #[(.ref b), (.int (1 : Int32)), (.int (Int32.ofNat cI))] ∧ Z.Warmed39 U.vm ∧ U.heap = h0) (fun _ _ _ _ _ => True) (fun _ U o U' => ∃ v L, o = .returned v ∧ QE [x0] cI h0 n0 v U'.heap L ∧ FrameEnd U o U' L ({ frames := 0, cells := 0, slots := 0, locals := 0 } : Room).cells ({ frames := 0, cells := 0, slots := 0, locals := 0 } : Room).slots) := by
  refine MetFree.of_bodySF pf_5 hisR ?_
  intro p e s m args below meth c s₁ Bd hml0 hP hK
  obtain ⟨rfl, hZ, hhE⟩ := hP
  have hx := Bd.exec
  have hby := Bd.bytes
  have hml : c.maxLocals = 3 := hml0
  have hown : s.vm.findClass "com/example/equitide/equitide/policy/backfilling/CountBoundsTreeStepOfPinLaw" = some m.cls := findClass_of_methodNamed Bd.named
  have hnm := (name_of_methodNamed Bd.named Bd.method).1
  have X0 : Stand p l e ({ frames := 0, cells := 0, slots := 0, locals := 0 } : Room) s m #[(.ref b), (.int (1 : Int32)), (.int (Int32.ofNat cI))] below meth c s₁ [] 0 0 := Stand.of_body Bd
  have e0 : s₁.heap = h0 := by rw [← hhE, Bd.state]; rfl
  have N0 := Fr.nil n0
  show own_Go p e below (own_Post s (QE [x0] cI h0 n0) ({ frames := 0, cells := 0, slots := 0, locals := 0 } : Room).cells ({ frames := 0, cells := 0, slots := 0, locals := 0 } : Room).slots) (s₁.setTop (entryFrame m #[(.ref b), (.int (1 : Int32)), (.int (Int32.ofNat cI))] 3))
  rw [ef_rmE1]
  generalize hG : own_Post s (QE [x0] cI h0 n0) ({ frames := 0, cells := 0, slots := 0, locals := 0 } : Room).cells ({ frames := 0, cells := 0, slots := 0, locals := 0 } : Room).slots = G
  refine own_aloadN X0 hx (hb hby d5_0) rfl rfl 1 rfl ?_
  refine own_iconst X0 hx (hb hby d5_1) (0 : Int32) rfl 2 rfl ?_
  refine own_iaload X0 hx hZ e0 Vb 0 rfl x0 rfl (hb hby d5_2) 3 rfl ?_
  refine own_iloadN X0 hx (hb hby d5_3) rfl 4 rfl ?_
  by_cases c150 : x0 < (Int32.ofNat cI)
  ·
    refine own_icmpY X0 hx (hb hby d5_4) (tlt c150).1 9 ⟨by decide, by decide⟩ ?_
    refine own_iloadN X0 hx (hb hby d5_9) rfl 10 rfl ?_
    refine own_iconst X0 hx (hb hby d5_10) (1 : Int32) rfl 11 rfl ?_
    refine own_icmpY X0 hx (hb hby d5_11) (flt (by decide)).2.2.2 23 ⟨by decide, by decide⟩ ?_
    refine own_iloadN X0 hx (hb hby d5_23) rfl 24 rfl ?_
    refine own_iconst X0 hx (hb hby d5_24) (2 : Int32) rfl 25 rfl ?_
    refine own_icmpY X0 hx (hb hby d5_25) (flt (by decide)).2.2.2 37 ⟨by decide, by decide⟩ ?_
    refine own_iloadN X0 hx (hb hby d5_37) rfl 38 rfl ?_
    refine own_iconst X0 hx (hb hby d5_38) (1 : Int32) rfl 39 rfl ?_
    refine own_isub X0 hx (hb hby d5_39) 40 rfl ?_
    show own_Go p e below G (s₁.setTop (mkF m 40 #[.val (.ref b), .val (.int (1 : Int32)), .val (.int (Int32.ofNat cI))] [(.int (0 : Int32))]))
    refine own_ireturn X0 hx Bd.notSynchronized hG Bd.returns (hb hby d5_40) (by decide) (by decide) ?_
    rw [e0]
    exact ⟨by rw [own_f1 hl]; (try simp only [↓reduceIte, c150]) <;> rfl, N0, rfl⟩
  ·
    refine own_icmpN X0 hx (hb hby d5_4) (flt c150).1 7 rfl ?_
    refine own_iconst X0 hx (hb hby d5_7) (0 : Int32) rfl 8 rfl ?_
    refine own_ireturn X0 hx Bd.notSynchronized hG Bd.returns (hb hby d5_8) (by decide) (by decide) ?_
    rw [e0]
    exact ⟨by rw [own_f1 hl]; (try simp only [↓reduceIte, c150]) <;> rfl, N0, rfl⟩
theorem ef_rmA1 (m : MethodId) (x0 : Addr) (x1 : Addr) (x2 : Int32) (x3 : Int32) : entryFrame m #[(.ref x0), (.ref x1), (.int x2), (.int x3)] 4 = mkF m 0 #[.val (.ref x0), .val (.ref x1), .val (.int x2), .val (.int x3)] [] := by first | (simp [entryFrame, mkF, argsToLocals, Value.category, maxLocals]; done) | rfl
set_option maxRecDepth 65536 in
set_option maxHeartbeats 40000000 in
theorem rmA1 (l : Launch) (Z : State) (a0 : Array Value) (hw : ∀ d ∈ tables_1, d.before a0 Z = true) (ws : List Jvm.Cond) (a b : Addr) (nn cI : Nat) (x0 : Int32) (h0 : Heap) (n0 : Nat) (hnn : nn < 8) (hcI : cI < 8) (hl : cI < nn → ¬ x0 < Int32.ofNat cI) (Va : own_A .int Value.int Z h0 a ((List.range nn).map fun c => Int32.ofNat (own_first [x0] c))) (Vb : own_A .int Value.int Z h0 b [x0]) :
    MetFree l own_y4 (head1 (Jvm.Cond.code own_y4 method_4_code 4 (some .boolean) :: ws) ({ frames := 1, cells := 0, slots := 0, locals := 16 } : Room)) (fun aR U => aR = #[(.ref a), (.ref b), (.int (1 : Int32)), (.int (Int32.ofNat cI))] ∧ Z.Warmed39 U.vm ∧ U.heap = h0) (fun _ _ _ _ _ => True) (fun _ U o U' => ∃ v L, o = .returned v ∧ QA h0 n0 v U'.heap L ∧ FrameEnd U o U' L ({ frames := 1, cells := 0, slots := 0, locals := 16 } : Room).cells ({ frames := 1, cells := 0, slots := 0, locals := 16 } : Room).slots) := by
  refine MetFree.of_bodySF pf_4 hisR ?_
  intro p e s m args below meth c s₁ Bd hml0 hP hK
  obtain ⟨rfl, hZ, hhE⟩ := hP
  have hx := Bd.exec
  have hby := Bd.bytes
  have hml : c.maxLocals = 4 := hml0
  have hown : s.vm.findClass "com/example/equitide/equitide/policy/backfilling/CountBoundsTreeStepOfPinLaw" = some m.cls := findClass_of_methodNamed Bd.named
  have hnm := (name_of_methodNamed Bd.named Bd.method).1
  have X0 : Stand p l e ({ frames := 1, cells := 0, slots := 0, locals := 16 } : Room) s m #[(.ref a), (.ref b), (.int (1 : Int32)), (.int (Int32.ofNat cI))] below meth c s₁ [] 0 0 := Stand.of_body Bd
  have e0 : s₁.heap = h0 := by rw [← hhE, Bd.state]; rfl
  have N0 := Fr.nil n0
  show own_Go p e below (own_Post s (QA h0 n0) ({ frames := 1, cells := 0, slots := 0, locals := 16 } : Room).cells ({ frames := 1, cells := 0, slots := 0, locals := 16 } : Room).slots) (s₁.setTop (entryFrame m #[(.ref a), (.ref b), (.int (1 : Int32)), (.int (Int32.ofNat cI))] 4))
  rw [ef_rmA1]
  generalize hG : own_Post s (QA h0 n0) ({ frames := 1, cells := 0, slots := 0, locals := 16 } : Room).cells ({ frames := 1, cells := 0, slots := 0, locals := 16 } : Room).slots = G
  refine own_iloadN X0 hx (hb hby d4_0) rfl 1 rfl ?_
  refine own_aloadN X0 hx (hb hby d4_1) rfl rfl 2 rfl ?_
  refine own_arraylength X0 hx hZ e0 Va (hb hby d4_2) 3 rfl ?_
  rw [show Int32.ofNat (List.length ((List.range nn).map fun c => Int32.ofNat (own_first [x0] c))) = (Int32.ofNat nn) from (by simp)]
  by_cases c151 : (Int32.ofNat cI) < (Int32.ofNat nn)
  ·
    refine own_icmpN X0 hx (hb hby d4_3) (tlt c151).2.1 6 rfl ?_
    rw [own_lt32 (by omega) (by omega)] at c151
    refine own_aloadN X0 hx (hb hby d4_6) rfl rfl 7 rfl ?_
    refine own_iloadN X0 hx (hb hby d4_7) rfl 8 rfl ?_
    refine own_iaload X0 hx hZ e0 Va cI rfl (Int32.ofNat (own_first [x0] cI)) (own_Rat _ c151) (hb hby d4_8) 9 rfl ?_
    refine own_aloadN X0 hx (hb hby d4_9) rfl rfl 10 rfl ?_
    refine own_iloadN X0 hx (hb hby d4_10) rfl 11 rfl ?_
    refine own_iloadN X0 hx (hb hby d4_11) rfl 12 rfl ?_
    refine own_callS X0 hx hZ hown (own_w hw 21 rfl) (own_w hw 22 rfl) (own_w hw 8 rfl) (own_w hw 23 rfl) (by decide) e0 (rmE1 l Z a0 hw [] b cI x0 h0 n0 (hl c151) Vb) (by rw [hml]; rfl) pd_0 (argsL := [(.ref b), (.int (1 : Int32)), (.int (Int32.ofNat cI))]) rfl (rest := [(.int (Int32.ofNat (own_first [x0] cI)))]) rfl (hb hby d4_12) 1 (Nat.le_of_eq rfl) (by decide) (by decide) (by decide) (by decide) 15 rfl (fun T152 L152 v152 X152 hQ152 => ?_)
    obtain ⟨rfl, N152, e152⟩ := hQ152
    have N153 := Fr.app N0 N152
    show own_Go p e below G (T152.setTop (mkF m 15 #[.val (.ref a), .val (.ref b), .val (.int (1 : Int32)), .val (.int (Int32.ofNat cI))] [(.int (Int32.ofNat (own_first [x0] cI))), (.int (Int32.ofNat (own_first [x0] cI)))]))
    refine own_icmpN X152 hx (hb hby d4_15) (teq rfl).2 18 rfl ?_
    refine own_iconst X152 hx (hb hby d4_18) (1 : Int32) rfl 19 rfl ?_
    refine own_goto X152 hx (hb hby d4_19) 23 ⟨by decide, by decide⟩ ?_
    refine own_nreturn X152 hx Bd.notSynchronized hG Bd.returns (by simp) (hb hby d4_23) (by decide) (by decide) ?_
    rw [e152]
    exact ⟨rfl, N153, rfl⟩
  ·
    refine own_icmpY X0 hx (hb hby d4_3) (flt c151).2.1 18 ⟨by decide, by decide⟩ ?_
    refine own_iconst X0 hx (hb hby d4_18) (1 : Int32) rfl 19 rfl ?_
    refine own_goto X0 hx (hb hby d4_19) 23 ⟨by decide, by decide⟩ ?_
    refine own_nreturn X0 hx Bd.notSynchronized hG Bd.returns (by simp) (hb hby d4_23) (by decide) (by decide) ?_
    rw [e0]
    exact ⟨rfl, N0, rfl⟩
theorem ef_rmE2 (m : MethodId) (x0 : Addr) (x1 : Int32) (x2 : Int32) : entryFrame m #[(.ref x0), (.int x1), (.int x2)] 3 = mkF m 0 #[.val (.ref x0), .val (.int x1), .val (.int x2)] [] := by first | (simp [entryFrame, mkF, argsToLocals, Value.category, maxLocals]; done) | rfl
set_option maxRecDepth 65536 in
set_option maxHeartbeats 40000000 in
theorem rmE2 (l : Launch) (Z : State) (a0 : Array Value) (hw : ∀ d ∈ tables_1, d.before a0 Z = true) (ws : List Jvm.Cond) (b : Addr) (cI : Nat) (x0 x1 : Int32) (h0 : Heap) (n0 : Nat) (hl : ¬ x1 < Int32.ofNat cI) (Vb : own_A .int Value.int Z h0 b [x0, x1]) :
    MetFree l own_y5 (head1 (Jvm.Cond.code own_y5 method_5_code 3 (some .int) :: ws) ({ frames := 0, cells := 0, slots := 0, locals := 0 } : Room)) (fun aR U => aR = #[(.ref b), (.int (2 : Int32)), (.int (Int32.ofNat cI))] ∧ Z.Warmed39 U.vm ∧ U.heap = h0) (fun _ _ _ _ _ => True) (fun _ U o U' => ∃ v L, o = .returned v ∧ QE [x0, x1] cI h0 n0 v U'.heap L ∧ FrameEnd U o U' L ({ frames := 0, cells := 0, slots := 0, locals := 0 } : Room).cells ({ frames := 0, cells := 0, slots := 0, locals := 0 } : Room).slots) := by
  refine MetFree.of_bodySF pf_5 hisR ?_
  intro p e s m args below meth c s₁ Bd hml0 hP hK
  obtain ⟨rfl, hZ, hhE⟩ := hP
  have hx := Bd.exec
  have hby := Bd.bytes
  have hml : c.maxLocals = 3 := hml0
  have hown : s.vm.findClass "com/example/equitide/equitide/policy/backfilling/CountBoundsTreeStepOfPinLaw" = some m.cls := findClass_of_methodNamed Bd.named
  have hnm := (name_of_methodNamed Bd.named Bd.method).1
  have X0 : Stand p l e ({ frames := 0, cells := 0, slots := 0, locals := 0 } : Room) s m #[(.ref b), (.int (2 : Int32)), (.int (Int32.ofNat cI))] below meth c s₁ [] 0 0 := Stand.of_body Bd
  have e0 : s₁.heap = h0 := by rw [← hhE, Bd.state]; rfl
  have N0 := Fr.nil n0
  show own_Go p e below (own_Post s (QE [x0, x1] cI h0 n0) ({ frames := 0, cells := 0, slots := 0, locals := 0 } : Room).cells ({ frames := 0, cells := 0, slots := 0, locals := 0 } : Room).slots) (s₁.setTop (entryFrame m #[(.ref b), (.int (2 : Int32)), (.int (Int32.ofNat cI))] 3))
  rw [ef_rmE2]
  generalize hG : own_Post s (QE [x0, x1] cI h0 n0) ({ frames := 0, cells := 0, slots := 0, locals := 0 } : Room).cells ({ frames := 0, cells := 0, slots := 0, locals := 0 } : Room).slots = G
  refine own_aloadN X0 hx (hb hby d5_0) rfl rfl 1 rfl ?_
  refine own_iconst X0 hx (hb hby d5_1) (0 : Int32) rfl 2 rfl ?_
  refine own_iaload X0 hx hZ e0 Vb 0 rfl x0 rfl (hb hby d5_2) 3 rfl ?_
  refine own_iloadN X0 hx (hb hby d5_3) rfl 4 rfl ?_
  by_cases c154 : x0 < (Int32.ofNat cI)
  ·
    refine own_icmpY X0 hx (hb hby d5_4) (tlt c154).1 9 ⟨by decide, by decide⟩ ?_
    refine own_iloadN X0 hx (hb hby d5_9) rfl 10 rfl ?_
    refine own_iconst X0 hx (hb hby d5_10) (1 : Int32) rfl 11 rfl ?_
    refine own_icmpN X0 hx (hb hby d5_11) (tlt (by decide)).2.2.2 14 rfl ?_
    refine own_aloadN X0 hx (hb hby d5_14) rfl rfl 15 rfl ?_
    refine own_iconst X0 hx (hb hby d5_15) (1 : Int32) rfl 16 rfl ?_
    refine own_iaload X0 hx hZ e0 Vb 1 rfl x1 rfl (hb hby d5_16) 17 rfl ?_
    refine own_iloadN X0 hx (hb hby d5_17) rfl 18 rfl ?_
    by_cases c155 : x1 < (Int32.ofNat cI)
    ·
      refine own_icmpY X0 hx (hb hby d5_18) (tlt c155).1 23 ⟨by decide, by decide⟩ ?_
      refine own_iloadN X0 hx (hb hby d5_23) rfl 24 rfl ?_
      refine own_iconst X0 hx (hb hby d5_24) (2 : Int32) rfl 25 rfl ?_
      refine own_icmpY X0 hx (hb hby d5_25) (flt (by decide)).2.2.2 37 ⟨by decide, by decide⟩ ?_
      refine own_iloadN X0 hx (hb hby d5_37) rfl 38 rfl ?_
      refine own_iconst X0 hx (hb hby d5_38) (1 : Int32) rfl 39 rfl ?_
      refine own_isub X0 hx (hb hby d5_39) 40 rfl ?_
      show own_Go p e below G (s₁.setTop (mkF m 40 #[.val (.ref b), .val (.int (2 : Int32)), .val (.int (Int32.ofNat cI))] [(.int (1 : Int32))]))
      refine own_ireturn X0 hx Bd.notSynchronized hG Bd.returns (hb hby d5_40) (by decide) (by decide) ?_
      rw [e0]
      exact ⟨by rw [own_f2 hl]; (try simp only [↓reduceIte, c154, c155]) <;> rfl, N0, rfl⟩
    ·
      refine own_icmpN X0 hx (hb hby d5_18) (flt c155).1 21 rfl ?_
      refine own_iconst X0 hx (hb hby d5_21) (1 : Int32) rfl 22 rfl ?_
      refine own_ireturn X0 hx Bd.notSynchronized hG Bd.returns (hb hby d5_22) (by decide) (by decide) ?_
      rw [e0]
      exact ⟨by rw [own_f2 hl]; (try simp only [↓reduceIte, c154, c155]) <;> rfl, N0, rfl⟩
  ·
    refine own_icmpN X0 hx (hb hby d5_4) (flt c154).1 7 rfl ?_
    refine own_iconst X0 hx (hb hby d5_7) (0 : Int32) rfl 8 rfl ?_
    refine own_ireturn X0 hx Bd.notSynchronized hG Bd.returns (hb hby d5_8) (by decide) (by decide) ?_
    rw [e0]
    exact ⟨by rw [own_f2 hl]; (try simp only [↓reduceIte, c154]) <;> rfl, N0, rfl⟩
theorem ef_rmA2 (m : MethodId) (x0 : Addr) (x1 : Addr) (x2 : Int32) (x3 : Int32) : entryFrame m #[(.ref x0), (.ref x1), (.int x2), (.int x3)] 4 = mkF m 0 #[.val (.ref x0), .val (.ref x1), .val (.int x2), .val (.int x3)] [] := by first | (simp [entryFrame, mkF, argsToLocals, Value.category, maxLocals]; done) | rfl
set_option maxRecDepth 65536 in
set_option maxHeartbeats 40000000 in
theorem rmA2 (l : Launch) (Z : State) (a0 : Array Value) (hw : ∀ d ∈ tables_1, d.before a0 Z = true) (ws : List Jvm.Cond) (a b : Addr) (nn cI : Nat) (x0 x1 : Int32) (h0 : Heap) (n0 : Nat) (hnn : nn < 8) (hcI : cI < 8) (hl : cI < nn → ¬ x1 < Int32.ofNat cI) (Va : own_A .int Value.int Z h0 a ((List.range nn).map fun c => Int32.ofNat (own_first [x0, x1] c))) (Vb : own_A .int Value.int Z h0 b [x0, x1]) :
    MetFree l own_y4 (head1 (Jvm.Cond.code own_y4 method_4_code 4 (some .boolean) :: ws) ({ frames := 1, cells := 0, slots := 0, locals := 16 } : Room)) (fun aR U => aR = #[(.ref a), (.ref b), (.int (2 : Int32)), (.int (Int32.ofNat cI))] ∧ Z.Warmed39 U.vm ∧ U.heap = h0) (fun _ _ _ _ _ => True) (fun _ U o U' => ∃ v L, o = .returned v ∧ QA h0 n0 v U'.heap L ∧ FrameEnd U o U' L ({ frames := 1, cells := 0, slots := 0, locals := 16 } : Room).cells ({ frames := 1, cells := 0, slots := 0, locals := 16 } : Room).slots) := by
  refine MetFree.of_bodySF pf_4 hisR ?_
  intro p e s m args below meth c s₁ Bd hml0 hP hK
  obtain ⟨rfl, hZ, hhE⟩ := hP
  have hx := Bd.exec
  have hby := Bd.bytes
  have hml : c.maxLocals = 4 := hml0
  have hown : s.vm.findClass "com/example/equitide/equitide/policy/backfilling/CountBoundsTreeStepOfPinLaw" = some m.cls := findClass_of_methodNamed Bd.named
  have hnm := (name_of_methodNamed Bd.named Bd.method).1
  have X0 : Stand p l e ({ frames := 1, cells := 0, slots := 0, locals := 16 } : Room) s m #[(.ref a), (.ref b), (.int (2 : Int32)), (.int (Int32.ofNat cI))] below meth c s₁ [] 0 0 := Stand.of_body Bd
  have e0 : s₁.heap = h0 := by rw [← hhE, Bd.state]; rfl
  have N0 := Fr.nil n0
  show own_Go p e below (own_Post s (QA h0 n0) ({ frames := 1, cells := 0, slots := 0, locals := 16 } : Room).cells ({ frames := 1, cells := 0, slots := 0, locals := 16 } : Room).slots) (s₁.setTop (entryFrame m #[(.ref a), (.ref b), (.int (2 : Int32)), (.int (Int32.ofNat cI))] 4))
  rw [ef_rmA2]
  generalize hG : own_Post s (QA h0 n0) ({ frames := 1, cells := 0, slots := 0, locals := 16 } : Room).cells ({ frames := 1, cells := 0, slots := 0, locals := 16 } : Room).slots = G
  refine own_iloadN X0 hx (hb hby d4_0) rfl 1 rfl ?_
  refine own_aloadN X0 hx (hb hby d4_1) rfl rfl 2 rfl ?_
  refine own_arraylength X0 hx hZ e0 Va (hb hby d4_2) 3 rfl ?_
  rw [show Int32.ofNat (List.length ((List.range nn).map fun c => Int32.ofNat (own_first [x0, x1] c))) = (Int32.ofNat nn) from (by simp)]
  by_cases c156 : (Int32.ofNat cI) < (Int32.ofNat nn)
  ·
    refine own_icmpN X0 hx (hb hby d4_3) (tlt c156).2.1 6 rfl ?_
    rw [own_lt32 (by omega) (by omega)] at c156
    refine own_aloadN X0 hx (hb hby d4_6) rfl rfl 7 rfl ?_
    refine own_iloadN X0 hx (hb hby d4_7) rfl 8 rfl ?_
    refine own_iaload X0 hx hZ e0 Va cI rfl (Int32.ofNat (own_first [x0, x1] cI)) (own_Rat _ c156) (hb hby d4_8) 9 rfl ?_
    refine own_aloadN X0 hx (hb hby d4_9) rfl rfl 10 rfl ?_
    refine own_iloadN X0 hx (hb hby d4_10) rfl 11 rfl ?_
    refine own_iloadN X0 hx (hb hby d4_11) rfl 12 rfl ?_
    refine own_callS X0 hx hZ hown (own_w hw 21 rfl) (own_w hw 22 rfl) (own_w hw 8 rfl) (own_w hw 23 rfl) (by decide) e0 (rmE2 l Z a0 hw [] b cI x0 x1 h0 n0 (hl c156) Vb) (by rw [hml]; rfl) pd_0 (argsL := [(.ref b), (.int (2 : Int32)), (.int (Int32.ofNat cI))]) rfl (rest := [(.int (Int32.ofNat (own_first [x0, x1] cI)))]) rfl (hb hby d4_12) 1 (Nat.le_of_eq rfl) (by decide) (by decide) (by decide) (by decide) 15 rfl (fun T157 L157 v157 X157 hQ157 => ?_)
    obtain ⟨rfl, N157, e157⟩ := hQ157
    have N158 := Fr.app N0 N157
    show own_Go p e below G (T157.setTop (mkF m 15 #[.val (.ref a), .val (.ref b), .val (.int (2 : Int32)), .val (.int (Int32.ofNat cI))] [(.int (Int32.ofNat (own_first [x0, x1] cI))), (.int (Int32.ofNat (own_first [x0, x1] cI)))]))
    refine own_icmpN X157 hx (hb hby d4_15) (teq rfl).2 18 rfl ?_
    refine own_iconst X157 hx (hb hby d4_18) (1 : Int32) rfl 19 rfl ?_
    refine own_goto X157 hx (hb hby d4_19) 23 ⟨by decide, by decide⟩ ?_
    refine own_nreturn X157 hx Bd.notSynchronized hG Bd.returns (by simp) (hb hby d4_23) (by decide) (by decide) ?_
    rw [e157]
    exact ⟨rfl, N158, rfl⟩
  ·
    refine own_icmpY X0 hx (hb hby d4_3) (flt c156).2.1 18 ⟨by decide, by decide⟩ ?_
    refine own_iconst X0 hx (hb hby d4_18) (1 : Int32) rfl 19 rfl ?_
    refine own_goto X0 hx (hb hby d4_19) 23 ⟨by decide, by decide⟩ ?_
    refine own_nreturn X0 hx Bd.notSynchronized hG Bd.returns (by simp) (hb hby d4_23) (by decide) (by decide) ?_
    rw [e0]
    exact ⟨rfl, N0, rfl⟩
theorem ef_rmE3 (m : MethodId) (x0 : Addr) (x1 : Int32) (x2 : Int32) : entryFrame m #[(.ref x0), (.int x1), (.int x2)] 3 = mkF m 0 #[.val (.ref x0), .val (.int x1), .val (.int x2)] [] := by first | (simp [entryFrame, mkF, argsToLocals, Value.category, maxLocals]; done) | rfl
set_option maxRecDepth 65536 in
set_option maxHeartbeats 40000000 in
theorem rmE3 (l : Launch) (Z : State) (a0 : Array Value) (hw : ∀ d ∈ tables_1, d.before a0 Z = true) (ws : List Jvm.Cond) (b : Addr) (cI : Nat) (x0 x1 x2 : Int32) (h0 : Heap) (n0 : Nat) (hl : ¬ x2 < Int32.ofNat cI) (Vb : own_A .int Value.int Z h0 b [x0, x1, x2]) :
    MetFree l own_y5 (head1 (Jvm.Cond.code own_y5 method_5_code 3 (some .int) :: ws) ({ frames := 0, cells := 0, slots := 0, locals := 0 } : Room)) (fun aR U => aR = #[(.ref b), (.int (3 : Int32)), (.int (Int32.ofNat cI))] ∧ Z.Warmed39 U.vm ∧ U.heap = h0) (fun _ _ _ _ _ => True) (fun _ U o U' => ∃ v L, o = .returned v ∧ QE [x0, x1, x2] cI h0 n0 v U'.heap L ∧ FrameEnd U o U' L ({ frames := 0, cells := 0, slots := 0, locals := 0 } : Room).cells ({ frames := 0, cells := 0, slots := 0, locals := 0 } : Room).slots) := by
  refine MetFree.of_bodySF pf_5 hisR ?_
  intro p e s m args below meth c s₁ Bd hml0 hP hK
  obtain ⟨rfl, hZ, hhE⟩ := hP
  have hx := Bd.exec
  have hby := Bd.bytes
  have hml : c.maxLocals = 3 := hml0
  have hown : s.vm.findClass "com/example/equitide/equitide/policy/backfilling/CountBoundsTreeStepOfPinLaw" = some m.cls := findClass_of_methodNamed Bd.named
  have hnm := (name_of_methodNamed Bd.named Bd.method).1
  have X0 : Stand p l e ({ frames := 0, cells := 0, slots := 0, locals := 0 } : Room) s m #[(.ref b), (.int (3 : Int32)), (.int (Int32.ofNat cI))] below meth c s₁ [] 0 0 := Stand.of_body Bd
  have e0 : s₁.heap = h0 := by rw [← hhE, Bd.state]; rfl
  have N0 := Fr.nil n0
  show own_Go p e below (own_Post s (QE [x0, x1, x2] cI h0 n0) ({ frames := 0, cells := 0, slots := 0, locals := 0 } : Room).cells ({ frames := 0, cells := 0, slots := 0, locals := 0 } : Room).slots) (s₁.setTop (entryFrame m #[(.ref b), (.int (3 : Int32)), (.int (Int32.ofNat cI))] 3))
  rw [ef_rmE3]
  generalize hG : own_Post s (QE [x0, x1, x2] cI h0 n0) ({ frames := 0, cells := 0, slots := 0, locals := 0 } : Room).cells ({ frames := 0, cells := 0, slots := 0, locals := 0 } : Room).slots = G
  refine own_aloadN X0 hx (hb hby d5_0) rfl rfl 1 rfl ?_
  refine own_iconst X0 hx (hb hby d5_1) (0 : Int32) rfl 2 rfl ?_
  refine own_iaload X0 hx hZ e0 Vb 0 rfl x0 rfl (hb hby d5_2) 3 rfl ?_
  refine own_iloadN X0 hx (hb hby d5_3) rfl 4 rfl ?_
  by_cases c159 : x0 < (Int32.ofNat cI)
  ·
    refine own_icmpY X0 hx (hb hby d5_4) (tlt c159).1 9 ⟨by decide, by decide⟩ ?_
    refine own_iloadN X0 hx (hb hby d5_9) rfl 10 rfl ?_
    refine own_iconst X0 hx (hb hby d5_10) (1 : Int32) rfl 11 rfl ?_
    refine own_icmpN X0 hx (hb hby d5_11) (tlt (by decide)).2.2.2 14 rfl ?_
    refine own_aloadN X0 hx (hb hby d5_14) rfl rfl 15 rfl ?_
    refine own_iconst X0 hx (hb hby d5_15) (1 : Int32) rfl 16 rfl ?_
    refine own_iaload X0 hx hZ e0 Vb 1 rfl x1 rfl (hb hby d5_16) 17 rfl ?_
    refine own_iloadN X0 hx (hb hby d5_17) rfl 18 rfl ?_
    by_cases c160 : x1 < (Int32.ofNat cI)
    ·
      refine own_icmpY X0 hx (hb hby d5_18) (tlt c160).1 23 ⟨by decide, by decide⟩ ?_
      refine own_iloadN X0 hx (hb hby d5_23) rfl 24 rfl ?_
      refine own_iconst X0 hx (hb hby d5_24) (2 : Int32) rfl 25 rfl ?_
      refine own_icmpN X0 hx (hb hby d5_25) (tlt (by decide)).2.2.2 28 rfl ?_
      refine own_aloadN X0 hx (hb hby d5_28) rfl rfl 29 rfl ?_
      refine own_iconst X0 hx (hb hby d5_29) (2 : Int32) rfl 30 rfl ?_
      refine own_iaload X0 hx hZ e0 Vb 2 rfl x2 rfl (hb hby d5_30) 31 rfl ?_
      refine own_iloadN X0 hx (hb hby d5_31) rfl 32 rfl ?_
      by_cases c161 : x2 < (Int32.ofNat cI)
      ·
        refine own_icmpY X0 hx (hb hby d5_32) (tlt c161).1 37 ⟨by decide, by decide⟩ ?_
        refine own_iloadN X0 hx (hb hby d5_37) rfl 38 rfl ?_
        refine own_iconst X0 hx (hb hby d5_38) (1 : Int32) rfl 39 rfl ?_
        refine own_isub X0 hx (hb hby d5_39) 40 rfl ?_
        show own_Go p e below G (s₁.setTop (mkF m 40 #[.val (.ref b), .val (.int (3 : Int32)), .val (.int (Int32.ofNat cI))] [(.int (2 : Int32))]))
        refine own_ireturn X0 hx Bd.notSynchronized hG Bd.returns (hb hby d5_40) (by decide) (by decide) ?_
        rw [e0]
        exact ⟨by rw [own_f3 hl]; (try simp only [↓reduceIte, c159, c160, c161]) <;> rfl, N0, rfl⟩
      ·
        refine own_icmpN X0 hx (hb hby d5_32) (flt c161).1 35 rfl ?_
        refine own_iconst X0 hx (hb hby d5_35) (2 : Int32) rfl 36 rfl ?_
        refine own_ireturn X0 hx Bd.notSynchronized hG Bd.returns (hb hby d5_36) (by decide) (by decide) ?_
        rw [e0]
        exact ⟨by rw [own_f3 hl]; (try simp only [↓reduceIte, c159, c160, c161]) <;> rfl, N0, rfl⟩
    ·
      refine own_icmpN X0 hx (hb hby d5_18) (flt c160).1 21 rfl ?_
      refine own_iconst X0 hx (hb hby d5_21) (1 : Int32) rfl 22 rfl ?_
      refine own_ireturn X0 hx Bd.notSynchronized hG Bd.returns (hb hby d5_22) (by decide) (by decide) ?_
      rw [e0]
      exact ⟨by rw [own_f3 hl]; (try simp only [↓reduceIte, c159, c160]) <;> rfl, N0, rfl⟩
  ·
    refine own_icmpN X0 hx (hb hby d5_4) (flt c159).1 7 rfl ?_
    refine own_iconst X0 hx (hb hby d5_7) (0 : Int32) rfl 8 rfl ?_
    refine own_ireturn X0 hx Bd.notSynchronized hG Bd.returns (hb hby d5_8) (by decide) (by decide) ?_
    rw [e0]
    exact ⟨by rw [own_f3 hl]; (try simp only [↓reduceIte, c159]) <;> rfl, N0, rfl⟩
theorem ef_rmA3 (m : MethodId) (x0 : Addr) (x1 : Addr) (x2 : Int32) (x3 : Int32) : entryFrame m #[(.ref x0), (.ref x1), (.int x2), (.int x3)] 4 = mkF m 0 #[.val (.ref x0), .val (.ref x1), .val (.int x2), .val (.int x3)] [] := by first | (simp [entryFrame, mkF, argsToLocals, Value.category, maxLocals]; done) | rfl
set_option maxRecDepth 65536 in
set_option maxHeartbeats 40000000 in
theorem rmA3 (l : Launch) (Z : State) (a0 : Array Value) (hw : ∀ d ∈ tables_1, d.before a0 Z = true) (ws : List Jvm.Cond) (a b : Addr) (nn cI : Nat) (x0 x1 x2 : Int32) (h0 : Heap) (n0 : Nat) (hnn : nn < 8) (hcI : cI < 8) (hl : cI < nn → ¬ x2 < Int32.ofNat cI) (Va : own_A .int Value.int Z h0 a ((List.range nn).map fun c => Int32.ofNat (own_first [x0, x1, x2] c))) (Vb : own_A .int Value.int Z h0 b [x0, x1, x2]) :
    MetFree l own_y4 (head1 (Jvm.Cond.code own_y4 method_4_code 4 (some .boolean) :: ws) ({ frames := 1, cells := 0, slots := 0, locals := 16 } : Room)) (fun aR U => aR = #[(.ref a), (.ref b), (.int (3 : Int32)), (.int (Int32.ofNat cI))] ∧ Z.Warmed39 U.vm ∧ U.heap = h0) (fun _ _ _ _ _ => True) (fun _ U o U' => ∃ v L, o = .returned v ∧ QA h0 n0 v U'.heap L ∧ FrameEnd U o U' L ({ frames := 1, cells := 0, slots := 0, locals := 16 } : Room).cells ({ frames := 1, cells := 0, slots := 0, locals := 16 } : Room).slots) := by
  refine MetFree.of_bodySF pf_4 hisR ?_
  intro p e s m args below meth c s₁ Bd hml0 hP hK
  obtain ⟨rfl, hZ, hhE⟩ := hP
  have hx := Bd.exec
  have hby := Bd.bytes
  have hml : c.maxLocals = 4 := hml0
  have hown : s.vm.findClass "com/example/equitide/equitide/policy/backfilling/CountBoundsTreeStepOfPinLaw" = some m.cls := findClass_of_methodNamed Bd.named
  have hnm := (name_of_methodNamed Bd.named Bd.method).1
  have X0 : Stand p l e ({ frames := 1, cells := 0, slots := 0, locals := 16 } : Room) s m #[(.ref a), (.ref b), (.int (3 : Int32)), (.int (Int32.ofNat cI))] below meth c s₁ [] 0 0 := Stand.of_body Bd
  have e0 : s₁.heap = h0 := by rw [← hhE, Bd.state]; rfl
  have N0 := Fr.nil n0
  show own_Go p e below (own_Post s (QA h0 n0) ({ frames := 1, cells := 0, slots := 0, locals := 16 } : Room).cells ({ frames := 1, cells := 0, slots := 0, locals := 16 } : Room).slots) (s₁.setTop (entryFrame m #[(.ref a), (.ref b), (.int (3 : Int32)), (.int (Int32.ofNat cI))] 4))
  rw [ef_rmA3]
  generalize hG : own_Post s (QA h0 n0) ({ frames := 1, cells := 0, slots := 0, locals := 16 } : Room).cells ({ frames := 1, cells := 0, slots := 0, locals := 16 } : Room).slots = G
  refine own_iloadN X0 hx (hb hby d4_0) rfl 1 rfl ?_
  refine own_aloadN X0 hx (hb hby d4_1) rfl rfl 2 rfl ?_
  refine own_arraylength X0 hx hZ e0 Va (hb hby d4_2) 3 rfl ?_
  rw [show Int32.ofNat (List.length ((List.range nn).map fun c => Int32.ofNat (own_first [x0, x1, x2] c))) = (Int32.ofNat nn) from (by simp)]
  by_cases c162 : (Int32.ofNat cI) < (Int32.ofNat nn)
  ·
    refine own_icmpN X0 hx (hb hby d4_3) (tlt c162).2.1 6 rfl ?_
    rw [own_lt32 (by omega) (by omega)] at c162
    refine own_aloadN X0 hx (hb hby d4_6) rfl rfl 7 rfl ?_
    refine own_iloadN X0 hx (hb hby d4_7) rfl 8 rfl ?_
    refine own_iaload X0 hx hZ e0 Va cI rfl (Int32.ofNat (own_first [x0, x1, x2] cI)) (own_Rat _ c162) (hb hby d4_8) 9 rfl ?_
    refine own_aloadN X0 hx (hb hby d4_9) rfl rfl 10 rfl ?_
    refine own_iloadN X0 hx (hb hby d4_10) rfl 11 rfl ?_
    refine own_iloadN X0 hx (hb hby d4_11) rfl 12 rfl ?_
    refine own_callS X0 hx hZ hown (own_w hw 21 rfl) (own_w hw 22 rfl) (own_w hw 8 rfl) (own_w hw 23 rfl) (by decide) e0 (rmE3 l Z a0 hw [] b cI x0 x1 x2 h0 n0 (hl c162) Vb) (by rw [hml]; rfl) pd_0 (argsL := [(.ref b), (.int (3 : Int32)), (.int (Int32.ofNat cI))]) rfl (rest := [(.int (Int32.ofNat (own_first [x0, x1, x2] cI)))]) rfl (hb hby d4_12) 1 (Nat.le_of_eq rfl) (by decide) (by decide) (by decide) (by decide) 15 rfl (fun T163 L163 v163 X163 hQ163 => ?_)
    obtain ⟨rfl, N163, e163⟩ := hQ163
    have N164 := Fr.app N0 N163
    show own_Go p e below G (T163.setTop (mkF m 15 #[.val (.ref a), .val (.ref b), .val (.int (3 : Int32)), .val (.int (Int32.ofNat cI))] [(.int (Int32.ofNat (own_first [x0, x1, x2] cI))), (.int (Int32.ofNat (own_first [x0, x1, x2] cI)))]))
    refine own_icmpN X163 hx (hb hby d4_15) (teq rfl).2 18 rfl ?_
    refine own_iconst X163 hx (hb hby d4_18) (1 : Int32) rfl 19 rfl ?_
    refine own_goto X163 hx (hb hby d4_19) 23 ⟨by decide, by decide⟩ ?_
    refine own_nreturn X163 hx Bd.notSynchronized hG Bd.returns (by simp) (hb hby d4_23) (by decide) (by decide) ?_
    rw [e163]
    exact ⟨rfl, N164, rfl⟩
  ·
    refine own_icmpY X0 hx (hb hby d4_3) (flt c162).2.1 18 ⟨by decide, by decide⟩ ?_
    refine own_iconst X0 hx (hb hby d4_18) (1 : Int32) rfl 19 rfl ?_
    refine own_goto X0 hx (hb hby d4_19) 23 ⟨by decide, by decide⟩ ?_
    refine own_nreturn X0 hx Bd.notSynchronized hG Bd.returns (by simp) (hb hby d4_23) (by decide) (by decide) ?_
    rw [e0]
    exact ⟨rfl, N0, rfl⟩
theorem ef_rmE4 (m : MethodId) (x0 : Addr) (x1 : Int32) (x2 : Int32) : entryFrame m #[(.ref x0), (.int x1), (.int x2)] 3 = mkF m 0 #[.val (.ref x0), .val (.int x1), .val (.int x2)] [] := by first | (simp [entryFrame, mkF, argsToLocals, Value.category, maxLocals]; done) | rfl
set_option maxRecDepth 65536 in
set_option maxHeartbeats 40000000 in
theorem rmE4 (l : Launch) (Z : State) (a0 : Array Value) (hw : ∀ d ∈ tables_1, d.before a0 Z = true) (ws : List Jvm.Cond) (b : Addr) (cI : Nat) (x0 x1 x2 x3 : Int32) (h0 : Heap) (n0 : Nat) (hl : ¬ x3 < Int32.ofNat cI) (Vb : own_A .int Value.int Z h0 b [x0, x1, x2, x3]) :
    MetFree l own_y5 (head1 (Jvm.Cond.code own_y5 method_5_code 3 (some .int) :: ws) ({ frames := 0, cells := 0, slots := 0, locals := 0 } : Room)) (fun aR U => aR = #[(.ref b), (.int (4 : Int32)), (.int (Int32.ofNat cI))] ∧ Z.Warmed39 U.vm ∧ U.heap = h0) (fun _ _ _ _ _ => True) (fun _ U o U' => ∃ v L, o = .returned v ∧ QE [x0, x1, x2, x3] cI h0 n0 v U'.heap L ∧ FrameEnd U o U' L ({ frames := 0, cells := 0, slots := 0, locals := 0 } : Room).cells ({ frames := 0, cells := 0, slots := 0, locals := 0 } : Room).slots) := by
  refine MetFree.of_bodySF pf_5 hisR ?_
  intro p e s m args below meth c s₁ Bd hml0 hP hK
  obtain ⟨rfl, hZ, hhE⟩ := hP
  have hx := Bd.exec
  have hby := Bd.bytes
  have hml : c.maxLocals = 3 := hml0
  have hown : s.vm.findClass "com/example/equitide/equitide/policy/backfilling/CountBoundsTreeStepOfPinLaw" = some m.cls := findClass_of_methodNamed Bd.named
  have hnm := (name_of_methodNamed Bd.named Bd.method).1
  have X0 : Stand p l e ({ frames := 0, cells := 0, slots := 0, locals := 0 } : Room) s m #[(.ref b), (.int (4 : Int32)), (.int (Int32.ofNat cI))] below meth c s₁ [] 0 0 := Stand.of_body Bd
  have e0 : s₁.heap = h0 := by rw [← hhE, Bd.state]; rfl
  have N0 := Fr.nil n0
  show own_Go p e below (own_Post s (QE [x0, x1, x2, x3] cI h0 n0) ({ frames := 0, cells := 0, slots := 0, locals := 0 } : Room).cells ({ frames := 0, cells := 0, slots := 0, locals := 0 } : Room).slots) (s₁.setTop (entryFrame m #[(.ref b), (.int (4 : Int32)), (.int (Int32.ofNat cI))] 3))
  rw [ef_rmE4]
  generalize hG : own_Post s (QE [x0, x1, x2, x3] cI h0 n0) ({ frames := 0, cells := 0, slots := 0, locals := 0 } : Room).cells ({ frames := 0, cells := 0, slots := 0, locals := 0 } : Room).slots = G
  refine own_aloadN X0 hx (hb hby d5_0) rfl rfl 1 rfl ?_
  refine own_iconst X0 hx (hb hby d5_1) (0 : Int32) rfl 2 rfl ?_
  refine own_iaload X0 hx hZ e0 Vb 0 rfl x0 rfl (hb hby d5_2) 3 rfl ?_
  refine own_iloadN X0 hx (hb hby d5_3) rfl 4 rfl ?_
  by_cases c165 : x0 < (Int32.ofNat cI)
  ·
    refine own_icmpY X0 hx (hb hby d5_4) (tlt c165).1 9 ⟨by decide, by decide⟩ ?_
    refine own_iloadN X0 hx (hb hby d5_9) rfl 10 rfl ?_
    refine own_iconst X0 hx (hb hby d5_10) (1 : Int32) rfl 11 rfl ?_
    refine own_icmpN X0 hx (hb hby d5_11) (tlt (by decide)).2.2.2 14 rfl ?_
    refine own_aloadN X0 hx (hb hby d5_14) rfl rfl 15 rfl ?_
    refine own_iconst X0 hx (hb hby d5_15) (1 : Int32) rfl 16 rfl ?_
    refine own_iaload X0 hx hZ e0 Vb 1 rfl x1 rfl (hb hby d5_16) 17 rfl ?_
    refine own_iloadN X0 hx (hb hby d5_17) rfl 18 rfl ?_
    by_cases c166 : x1 < (Int32.ofNat cI)
    ·
      refine own_icmpY X0 hx (hb hby d5_18) (tlt c166).1 23 ⟨by decide, by decide⟩ ?_
      refine own_iloadN X0 hx (hb hby d5_23) rfl 24 rfl ?_
      refine own_iconst X0 hx (hb hby d5_24) (2 : Int32) rfl 25 rfl ?_
      refine own_icmpN X0 hx (hb hby d5_25) (tlt (by decide)).2.2.2 28 rfl ?_
      refine own_aloadN X0 hx (hb hby d5_28) rfl rfl 29 rfl ?_
      refine own_iconst X0 hx (hb hby d5_29) (2 : Int32) rfl 30 rfl ?_
      refine own_iaload X0 hx hZ e0 Vb 2 rfl x2 rfl (hb hby d5_30) 31 rfl ?_
      refine own_iloadN X0 hx (hb hby d5_31) rfl 32 rfl ?_
      by_cases c167 : x2 < (Int32.ofNat cI)
      ·
        refine own_icmpY X0 hx (hb hby d5_32) (tlt c167).1 37 ⟨by decide, by decide⟩ ?_
        refine own_iloadN X0 hx (hb hby d5_37) rfl 38 rfl ?_
        refine own_iconst X0 hx (hb hby d5_38) (1 : Int32) rfl 39 rfl ?_
        refine own_isub X0 hx (hb hby d5_39) 40 rfl ?_
        show own_Go p e below G (s₁.setTop (mkF m 40 #[.val (.ref b), .val (.int (4 : Int32)), .val (.int (Int32.ofNat cI))] [(.int (3 : Int32))]))
        refine own_ireturn X0 hx Bd.notSynchronized hG Bd.returns (hb hby d5_40) (by decide) (by decide) ?_
        rw [e0]
        exact ⟨by rw [own_f4 hl]; (try simp only [↓reduceIte, c165, c166, c167]) <;> rfl, N0, rfl⟩
      ·
        refine own_icmpN X0 hx (hb hby d5_32) (flt c167).1 35 rfl ?_
        refine own_iconst X0 hx (hb hby d5_35) (2 : Int32) rfl 36 rfl ?_
        refine own_ireturn X0 hx Bd.notSynchronized hG Bd.returns (hb hby d5_36) (by decide) (by decide) ?_
        rw [e0]
        exact ⟨by rw [own_f4 hl]; (try simp only [↓reduceIte, c165, c166, c167]) <;> rfl, N0, rfl⟩
    ·
      refine own_icmpN X0 hx (hb hby d5_18) (flt c166).1 21 rfl ?_
      refine own_iconst X0 hx (hb hby d5_21) (1 : Int32) rfl 22 rfl ?_
      refine own_ireturn X0 hx Bd.notSynchronized hG Bd.returns (hb hby d5_22) (by decide) (by decide) ?_
      rw [e0]
      exact ⟨by rw [own_f4 hl]; (try simp only [↓reduceIte, c165, c166]) <;> rfl, N0, rfl⟩
  ·
    refine own_icmpN X0 hx (hb hby d5_4) (flt c165).1 7 rfl ?_
    refine own_iconst X0 hx (hb hby d5_7) (0 : Int32) rfl 8 rfl ?_
    refine own_ireturn X0 hx Bd.notSynchronized hG Bd.returns (hb hby d5_8) (by decide) (by decide) ?_
    rw [e0]
    exact ⟨by rw [own_f4 hl]; (try simp only [↓reduceIte, c165]) <;> rfl, N0, rfl⟩
theorem ef_rmA4 (m : MethodId) (x0 : Addr) (x1 : Addr) (x2 : Int32) (x3 : Int32) : entryFrame m #[(.ref x0), (.ref x1), (.int x2), (.int x3)] 4 = mkF m 0 #[.val (.ref x0), .val (.ref x1), .val (.int x2), .val (.int x3)] [] := by first | (simp [entryFrame, mkF, argsToLocals, Value.category, maxLocals]; done) | rfl
set_option maxRecDepth 65536 in
set_option maxHeartbeats 40000000 in
theorem rmA4 (l : Launch) (Z : State) (a0 : Array Value) (hw : ∀ d ∈ tables_1, d.before a0 Z = true) (ws : List Jvm.Cond) (a b : Addr) (nn cI : Nat) (x0 x1 x2 x3 : Int32) (h0 : Heap) (n0 : Nat) (hnn : nn < 8) (hcI : cI < 8) (hl : cI < nn → ¬ x3 < Int32.ofNat cI) (Va : own_A .int Value.int Z h0 a ((List.range nn).map fun c => Int32.ofNat (own_first [x0, x1, x2, x3] c))) (Vb : own_A .int Value.int Z h0 b [x0, x1, x2, x3]) :
    MetFree l own_y4 (head1 (Jvm.Cond.code own_y4 method_4_code 4 (some .boolean) :: ws) ({ frames := 1, cells := 0, slots := 0, locals := 16 } : Room)) (fun aR U => aR = #[(.ref a), (.ref b), (.int (4 : Int32)), (.int (Int32.ofNat cI))] ∧ Z.Warmed39 U.vm ∧ U.heap = h0) (fun _ _ _ _ _ => True) (fun _ U o U' => ∃ v L, o = .returned v ∧ QA h0 n0 v U'.heap L ∧ FrameEnd U o U' L ({ frames := 1, cells := 0, slots := 0, locals := 16 } : Room).cells ({ frames := 1, cells := 0, slots := 0, locals := 16 } : Room).slots) := by
  refine MetFree.of_bodySF pf_4 hisR ?_
  intro p e s m args below meth c s₁ Bd hml0 hP hK
  obtain ⟨rfl, hZ, hhE⟩ := hP
  have hx := Bd.exec
  have hby := Bd.bytes
  have hml : c.maxLocals = 4 := hml0
  have hown : s.vm.findClass "com/example/equitide/equitide/policy/backfilling/CountBoundsTreeStepOfPinLaw" = some m.cls := findClass_of_methodNamed Bd.named
  have hnm := (name_of_methodNamed Bd.named Bd.method).1
  have X0 : Stand p l e ({ frames := 1, cells := 0, slots := 0, locals := 16 } : Room) s m #[(.ref a), (.ref b), (.int (4 : Int32)), (.int (Int32.ofNat cI))] below meth c s₁ [] 0 0 := Stand.of_body Bd
  have e0 : s₁.heap = h0 := by rw [← hhE, Bd.state]; rfl
  have N0 := Fr.nil n0
  show own_Go p e below (own_Post s (QA h0 n0) ({ frames := 1, cells := 0, slots := 0, locals := 16 } : Room).cells ({ frames := 1, cells := 0, slots := 0, locals := 16 } : Room).slots) (s₁.setTop (entryFrame m #[(.ref a), (.ref b), (.int (4 : Int32)), (.int (Int32.ofNat cI))] 4))
  rw [ef_rmA4]
  generalize hG : own_Post s (QA h0 n0) ({ frames := 1, cells := 0, slots := 0, locals := 16 } : Room).cells ({ frames := 1, cells := 0, slots := 0, locals := 16 } : Room).slots = G
  refine own_iloadN X0 hx (hb hby d4_0) rfl 1 rfl ?_
  refine own_aloadN X0 hx (hb hby d4_1) rfl rfl 2 rfl ?_
  refine own_arraylength X0 hx hZ e0 Va (hb hby d4_2) 3 rfl ?_
  rw [show Int32.ofNat (List.length ((List.range nn).map fun c => Int32.ofNat (own_first [x0, x1, x2, x3] c))) = (Int32.ofNat nn) from (by simp)]
  by_cases c168 : (Int32.ofNat cI) < (Int32.ofNat nn)
  ·
    refine own_icmpN X0 hx (hb hby d4_3) (tlt c168).2.1 6 rfl ?_
    rw [own_lt32 (by omega) (by omega)] at c168
    refine own_aloadN X0 hx (hb hby d4_6) rfl rfl 7 rfl ?_
    refine own_iloadN X0 hx (hb hby d4_7) rfl 8 rfl ?_
    refine own_iaload X0 hx hZ e0 Va cI rfl (Int32.ofNat (own_first [x0, x1, x2, x3] cI)) (own_Rat _ c168) (hb hby d4_8) 9 rfl ?_
    refine own_aloadN X0 hx (hb hby d4_9) rfl rfl 10 rfl ?_
    refine own_iloadN X0 hx (hb hby d4_10) rfl 11 rfl ?_
    refine own_iloadN X0 hx (hb hby d4_11) rfl 12 rfl ?_
    refine own_callS X0 hx hZ hown (own_w hw 21 rfl) (own_w hw 22 rfl) (own_w hw 8 rfl) (own_w hw 23 rfl) (by decide) e0 (rmE4 l Z a0 hw [] b cI x0 x1 x2 x3 h0 n0 (hl c168) Vb) (by rw [hml]; rfl) pd_0 (argsL := [(.ref b), (.int (4 : Int32)), (.int (Int32.ofNat cI))]) rfl (rest := [(.int (Int32.ofNat (own_first [x0, x1, x2, x3] cI)))]) rfl (hb hby d4_12) 1 (Nat.le_of_eq rfl) (by decide) (by decide) (by decide) (by decide) 15 rfl (fun T169 L169 v169 X169 hQ169 => ?_)
    obtain ⟨rfl, N169, e169⟩ := hQ169
    have N170 := Fr.app N0 N169
    show own_Go p e below G (T169.setTop (mkF m 15 #[.val (.ref a), .val (.ref b), .val (.int (4 : Int32)), .val (.int (Int32.ofNat cI))] [(.int (Int32.ofNat (own_first [x0, x1, x2, x3] cI))), (.int (Int32.ofNat (own_first [x0, x1, x2, x3] cI)))]))
    refine own_icmpN X169 hx (hb hby d4_15) (teq rfl).2 18 rfl ?_
    refine own_iconst X169 hx (hb hby d4_18) (1 : Int32) rfl 19 rfl ?_
    refine own_goto X169 hx (hb hby d4_19) 23 ⟨by decide, by decide⟩ ?_
    refine own_nreturn X169 hx Bd.notSynchronized hG Bd.returns (by simp) (hb hby d4_23) (by decide) (by decide) ?_
    rw [e169]
    exact ⟨rfl, N170, rfl⟩
  ·
    refine own_icmpY X0 hx (hb hby d4_3) (flt c168).2.1 18 ⟨by decide, by decide⟩ ?_
    refine own_iconst X0 hx (hb hby d4_18) (1 : Int32) rfl 19 rfl ?_
    refine own_goto X0 hx (hb hby d4_19) 23 ⟨by decide, by decide⟩ ?_
    refine own_nreturn X0 hx Bd.notSynchronized hG Bd.returns (by simp) (hb hby d4_23) (by decide) (by decide) ?_
    rw [e0]
    exact ⟨rfl, N0, rfl⟩
def Q0 (h0 : Heap) (n0 : Nat) (v : Option Value) (h : Heap) (L : List Loc) : Prop := v = some (.int 1) ∧ Fr n0 L
theorem ef_rm0 (m : MethodId) (x0 : Int32) (x1 : Int32) (x2 : Int32) (x3 : Int32) : entryFrame m #[(.int x0), (.int x1), (.int x2), (.int x3)] maxLocals = mkF m 0 #[.val (.int x0), .val (.int x1), .val (.int x2), .val (.int x3), .unset, .unset, .unset, .unset, .unset, .unset, .unset, .unset, .unset] [] := by first | (simp [entryFrame, mkF, argsToLocals, Value.category, maxLocals]; done) | rfl
set_option maxRecDepth 65536 in
set_option maxHeartbeats 40000000 in
theorem rm0 (l : Launch) (Z : State) (a0 : Array Value) (hw : ∀ d ∈ tables_1, d.before a0 Z = true) (ws : List Jvm.Cond) (v0 v1 v2 v3 : Int32) (h0 : Heap) (n0 : Nat) (Z0 : n0 ≤ h0.size) :
    MetFree l x (head1 (Jvm.Cond.code x code maxLocals ret :: ws) room_1) (fun aR U => aR = #[(.int v0), (.int v1), (.int v2), (.int v3)] ∧ Z.Warmed39 U.vm ∧ U.heap = h0) (fun _ _ _ _ _ => True) (fun _ U o U' => ∃ v L, o = .returned v ∧ Q0 h0 n0 v U'.heap L ∧ FrameEnd U o U' L room_1.cells room_1.slots) := by
  refine MetFree.of_bodySF (plainFor_of_name pn_0) hisR ?_
  intro p e s m args below meth c s₁ Bd hml0 hP hK
  obtain ⟨rfl, hZ, hhE⟩ := hP
  have hx := Bd.exec
  have hby := Bd.bytes
  have hml : c.maxLocals = 13 := hml0
  have hown : s.vm.findClass "com/example/equitide/equitide/policy/backfilling/CountBoundsTreeStepOfPinLaw" = some m.cls := findClass_of_methodNamed Bd.named
  have hnm := (name_of_methodNamed Bd.named Bd.method).1
  have X0 : Stand p l e room_1 s m #[(.int v0), (.int v1), (.int v2), (.int v3)] below meth c s₁ [] 0 0 := Stand.of_body Bd
  have e0 : s₁.heap = h0 := by rw [← hhE, Bd.state]; rfl
  have N0 := Fr.nil n0
  show own_Go p e below (own_Post s (Q0 h0 n0) room_1.cells room_1.slots) (s₁.setTop (entryFrame m #[(.int v0), (.int v1), (.int v2), (.int v3)] maxLocals))
  rw [ef_rm0]
  generalize hG : own_Post s (Q0 h0 n0) room_1.cells room_1.slots = G
  refine own_iloadN X0 hx (hb hby at_0) rfl 1 rfl ?_
  refine own_bipush X0 hx (hb hby at_1) (7 : Int32) rfl 3 rfl ?_
  refine own_iand X0 hx (hb hby at_3) 4 rfl ?_
  generalize hy171 : (v0 &&& (7 : Int32)) = y171
  refine own_istore X0 hx (hb hby at_4) #[.val (.int v0), .val (.int v1), .val (.int v2), .val (.int v3), .val (.int y171), .unset, .unset, .unset, .unset, .unset, .unset, .unset, .unset] rfl 6 rfl ?_
  refine own_iconst X0 hx (hb hby at_6) (1 : Int32) rfl 7 rfl ?_
  refine own_iloadN X0 hx (hb hby at_7) rfl 8 rfl ?_
  refine own_iconst X0 hx (hb hby at_8) (3 : Int32) rfl 9 rfl ?_
  refine own_iushr X0 hx (hb hby at_9) 10 rfl ?_
  refine own_iconst X0 hx (hb hby at_10) (3 : Int32) rfl 11 rfl ?_
  refine own_iand X0 hx (hb hby at_11) 12 rfl ?_
  refine own_iadd X0 hx (hb hby at_12) 13 rfl ?_
  generalize hy172 : ((1 : Int32) + (((v0).toUInt32 >>> ((3 : Int32) &&& 31).toUInt32).toInt32 &&& (3 : Int32))) = y172
  refine own_istore X0 hx (hb hby at_13) #[.val (.int v0), .val (.int v1), .val (.int v2), .val (.int v3), .val (.int y171), .val (.int y172), .unset, .unset, .unset, .unset, .unset, .unset, .unset] rfl 15 rfl ?_
  obtain ⟨nn, hnn, he⟩ := own_n v0
  obtain rfl : y171 = Int32.ofNat nn := hy171.symm.trans he
  have hk := own_k ((v0.toUInt32 >>> ((3 : Int32) &&& 31).toUInt32).toInt32)
  rw [hy172] at hk
  refine own_iload X0 hx (hb hby at_15) rfl 17 rfl ?_
  suffices kj175 : ∀ u174 : Int32, ((Int32.ofNat nn) = (0 : Int32) → u174 = (0 : Int32)) → (¬ ((Int32.ofNat nn) = (0 : Int32)) → u174 = ((Int32.ofNat nn) - (1 : Int32))) → own_Go p e below G (s₁.setTop (mkF m 28 #[.val (.int v0), .val (.int v1), .val (.int v2), .val (.int v3), .val (.int (Int32.ofNat nn)), .val (.int y172), .unset, .unset, .unset, .unset, .unset, .unset, .unset] [(.int u174)])) by
    by_cases c173 : (Int32.ofNat nn) = (0 : Int32)
    ·
      refine own_ifN X0 hx (hb hby at_17) ((if0 _ _).trans (teq c173).2) 20 rfl ?_
      refine own_iconst X0 hx (hb hby at_20) (0 : Int32) rfl 21 rfl ?_
      refine own_goto X0 hx (hb hby at_21) 28 ⟨by decide, by decide⟩ ?_
      exact kj175 (0 : Int32) (fun _ => rfl) (fun q => absurd c173 q)
    ·
      refine own_ifY X0 hx (hb hby at_17) ((if0 _ _).trans (feq c173).2) 24 ⟨by decide, by decide⟩ ?_
      refine own_iload X0 hx (hb hby at_24) rfl 26 rfl ?_
      refine own_iconst X0 hx (hb hby at_26) (1 : Int32) rfl 27 rfl ?_
      refine own_isub X0 hx (hb hby at_27) 28 rfl ?_
      exact kj175 ((Int32.ofNat nn) - (1 : Int32)) (fun q => absurd q c173) (fun _ => rfl)
  intro u174 hu174T hu174F
  obtain rfl : u174 = Int32.ofNat (nn - 1) := own_top hnn hu174T hu174F
  refine own_istore X0 hx (hb hby at_28) #[.val (.int v0), .val (.int v1), .val (.int v2), .val (.int v3), .val (.int (Int32.ofNat nn)), .val (.int y172), .val (.int (Int32.ofNat (nn - 1))), .unset, .unset, .unset, .unset, .unset, .unset] rfl 30 rfl ?_
  refine own_iloadN X0 hx (hb hby at_30) rfl 31 rfl ?_
  refine own_ldcInt X0 hx hown (mvT hZ (own_w hw 0 rfl)) (hb hby at_31) 33 rfl ?_
  refine own_iand X0 hx (hb hby at_33) 34 rfl ?_
  refine own_iload X0 hx (hb hby at_34) rfl 36 rfl ?_
  refine own_iconst X0 hx (hb hby at_36) (1 : Int32) rfl 37 rfl ?_
  refine own_iadd X0 hx (hb hby at_37) 38 rfl ?_
  refine own_irem X0 hx (hb hby at_38) (own_nz hnn) 39 rfl ?_
  generalize hy176 : ((v1 &&& (2147483647 : Int32)) % ((Int32.ofNat (nn - 1)) + (1 : Int32))) = y176
  refine own_istore X0 hx (hb hby at_39) #[.val (.int v0), .val (.int v1), .val (.int v2), .val (.int v3), .val (.int (Int32.ofNat nn)), .val (.int y172), .val (.int (Int32.ofNat (nn - 1))), .val (.int y176), .unset, .unset, .unset, .unset, .unset] rfl 41 rfl ?_
  refine own_iload X0 hx (hb hby at_41) rfl 43 rfl ?_
  refine own_iloadN X0 hx (hb hby at_43) rfl 44 rfl ?_
  refine own_ldcInt X0 hx hown (mvT hZ (own_w hw 0 rfl)) (hb hby at_44) 46 rfl ?_
  refine own_iand X0 hx (hb hby at_46) 47 rfl ?_
  refine own_iload X0 hx (hb hby at_47) rfl 49 rfl ?_
  refine own_iconst X0 hx (hb hby at_49) (1 : Int32) rfl 50 rfl ?_
  refine own_iadd X0 hx (hb hby at_50) 51 rfl ?_
  refine own_irem X0 hx (hb hby at_51) (own_nz hnn) 52 rfl ?_
  refine own_callS X0 hx hZ hown (own_w hw 1 rfl) (own_w hw 2 rfl) (own_w hw 3 rfl) (own_w hw 4 rfl) (by decide) e0 (rm1 l Z a0 hw [] y176 ((v2 &&& (2147483647 : Int32)) % ((Int32.ofNat (nn - 1)) + (1 : Int32))) h0 n0) (by rw [hml]; rfl) pd_1 (argsL := [(.int y176), (.int ((v2 &&& (2147483647 : Int32)) % ((Int32.ofNat (nn - 1)) + (1 : Int32))))]) rfl (rest := []) rfl (hb hby at_52) 0 (Nat.le_of_eq rfl) (by decide) (by decide) (by decide) (by decide) 55 rfl (fun T177 L177 v177 X177 hQ177 => ?_)
  obtain ⟨r177, hQ177⟩ := hQ177
  obtain ⟨rfl, N177, e177⟩ := hQ177
  have N178 := Fr.app N0 N177
  show own_Go p e below G (T177.setTop (mkF m 55 #[.val (.int v0), .val (.int v1), .val (.int v2), .val (.int v3), .val (.int (Int32.ofNat nn)), .val (.int y172), .val (.int (Int32.ofNat (nn - 1))), .val (.int y176), .unset, .unset, .unset, .unset, .unset] [(.int r177)]))
  refine own_istore X177 hx (hb hby at_55) #[.val (.int v0), .val (.int v1), .val (.int v2), .val (.int v3), .val (.int (Int32.ofNat nn)), .val (.int y172), .val (.int (Int32.ofNat (nn - 1))), .val (.int y176), .val (.int r177), .unset, .unset, .unset, .unset] rfl 57 rfl ?_
  refine own_iload X177 hx (hb hby at_57) rfl 59 rfl ?_
  refine own_iloadN X177 hx (hb hby at_59) rfl 60 rfl ?_
  refine own_ldcInt X177 hx hown (mvT hZ (own_w hw 0 rfl)) (hb hby at_60) 62 rfl ?_
  refine own_iand X177 hx (hb hby at_62) 63 rfl ?_
  refine own_iload X177 hx (hb hby at_63) rfl 65 rfl ?_
  refine own_iconst X177 hx (hb hby at_65) (1 : Int32) rfl 66 rfl ?_
  refine own_iadd X177 hx (hb hby at_66) 67 rfl ?_
  refine own_irem X177 hx (hb hby at_67) (own_nz hnn) 68 rfl ?_
  refine own_callS X177 hx hZ hown (own_w hw 1 rfl) (own_w hw 2 rfl) (own_w hw 3 rfl) (own_w hw 4 rfl) (by decide) e177 (rm1 l Z a0 hw [] r177 ((v3 &&& (2147483647 : Int32)) % ((Int32.ofNat (nn - 1)) + (1 : Int32))) h0 n0) (by rw [hml]; rfl) pd_1 (argsL := [(.int r177), (.int ((v3 &&& (2147483647 : Int32)) % ((Int32.ofNat (nn - 1)) + (1 : Int32))))]) rfl (rest := []) rfl (hb hby at_68) 0 (Nat.le_of_eq rfl) (by decide) (by decide) (by decide) (by decide) 71 rfl (fun T179 L179 v179 X179 hQ179 => ?_)
  obtain ⟨r179, hQ179⟩ := hQ179
  obtain ⟨rfl, N179, e179⟩ := hQ179
  have N180 := Fr.app N178 N179
  show own_Go p e below G (T179.setTop (mkF m 71 #[.val (.int v0), .val (.int v1), .val (.int v2), .val (.int v3), .val (.int (Int32.ofNat nn)), .val (.int y172), .val (.int (Int32.ofNat (nn - 1))), .val (.int y176), .val (.int r177), .unset, .unset, .unset, .unset] [(.int r179)]))
  refine own_istore X179 hx (hb hby at_71) #[.val (.int v0), .val (.int v1), .val (.int v2), .val (.int v3), .val (.int (Int32.ofNat nn)), .val (.int y172), .val (.int (Int32.ofNat (nn - 1))), .val (.int y176), .val (.int r177), .val (.int r179), .unset, .unset, .unset] rfl 73 rfl ?_
  rcases hk with rfl | rfl | rfl | rfl
  ·
    refine own_iload X179 hx (hb hby at_73) rfl 75 rfl ?_
    refine own_iconst X179 hx (hb hby at_75) (1 : Int32) rfl 76 rfl ?_
    refine own_icmpN X179 hx (hb hby at_76) (teq (by decide)).2 79 rfl ?_
    refine own_iconst X179 hx (hb hby at_79) (1 : Int32) rfl 80 rfl ?_
    refine own_newI X179 hx hZ (own_w hw 5 rfl) e179 (hb hby at_80) 1 rfl 1 (by decide) (by decide) (by decide) (by decide) 82 rfl (fun T181 h181 a181 g181 X181 e181 E181 V181 => ?_)
    have ge182 : n0 ≤ a181 := by rw [g181]; exact Z0
    have Z183 : n0 ≤ h181.size := Nat.le_trans Z0 E181.1
    rw [show (List.replicate 1 (0 : Int32)) = [(0 : Int32)] from rfl] at V181
    refine own_dup X181 hx (hb hby at_82) rfl 83 rfl ?_
    refine own_iconst X181 hx (hb hby at_83) (0 : Int32) rfl 84 rfl ?_
    refine own_iload X181 hx (hb hby at_84) rfl 86 rfl ?_
    refine own_iastore X181 hx hZ e181 V181 0 rfl (by simp) (hb hby at_86) 87 rfl (fun T184 h184 X184 e184 W184 V184 => ?_)
    rw [show [(0 : Int32)].set 0 (Int32.ofNat (nn - 1)) = [(Int32.ofNat (nn - 1))] from rfl] at V184
    have N185 := Fr.snoc X184 N180 ge182
    have Z186 : n0 ≤ h184.size := by rw [W184.size]; exact Z183
    have hlast : ∀ cI, cI < nn → ¬ Int32.ofNat (nn - 1) < Int32.ofNat cI := fun cI h => own_last hnn h
    refine own_goto X184 hx (hb hby at_87) 162 ⟨by decide, by decide⟩ ?_
    refine own_astore X184 hx (hb hby at_162) rfl #[.val (.int v0), .val (.int v1), .val (.int v2), .val (.int v3), .val (.int (Int32.ofNat nn)), .val (.int (1 : Int32)), .val (.int (Int32.ofNat (nn - 1))), .val (.int y176), .val (.int r177), .val (.int r179), .val (.ref a181), .unset, .unset] rfl 164 rfl ?_
    refine own_iload X184 hx (hb hby at_164) rfl 166 rfl ?_
    refine own_callS X184 hx hZ hown (own_w hw 6 rfl) (own_w hw 7 rfl) (own_w hw 8 rfl) (own_w hw 9 rfl) (by decide) e184 (rm2 l Z a0 hw [] nn h184 n0 hnn Z186) (by rw [hml]; rfl) pd_2 (argsL := [(.int (Int32.ofNat nn))]) rfl (rest := []) rfl (hb hby at_166) 0 (Nat.le_of_eq rfl) (by decide) (by decide) (by decide) (by decide) 169 rfl (fun T187 L187 v187 X187 hQ187 => ?_)
    obtain ⟨b187, Lc187, hQ187⟩ := hQ187
    obtain ⟨rfl, N187, K187, V187, hl187⟩ := hQ187
    have N188 := Fr.app N185 N187
    have V189 := V184.keep K187 nin0
    have Z190 : n0 ≤ T187.heap.size := Nat.le_trans Z186 K187.1
    show own_Go p e below G (T187.setTop (mkF m 169 #[.val (.int v0), .val (.int v1), .val (.int v2), .val (.int v3), .val (.int (Int32.ofNat nn)), .val (.int (1 : Int32)), .val (.int (Int32.ofNat (nn - 1))), .val (.int y176), .val (.int r177), .val (.int r179), .val (.ref a181), .unset, .unset] [(.ref b187)]))
    refine own_astore X187 hx (hb hby at_169) rfl #[.val (.int v0), .val (.int v1), .val (.int v2), .val (.int v3), .val (.int (Int32.ofNat nn)), .val (.int (1 : Int32)), .val (.int (Int32.ofNat (nn - 1))), .val (.int y176), .val (.int r177), .val (.int r179), .val (.ref a181), .val (.ref b187), .unset] rfl 171 rfl ?_
    refine own_aload X187 hx (hb hby at_171) rfl rfl 173 rfl ?_
    refine own_aload X187 hx (hb hby at_173) rfl rfl 175 rfl ?_
    refine own_callS X187 hx hZ hown (own_w hw 11 rfl) (own_w hw 12 rfl) (own_w hw 13 rfl) (own_w hw 14 rfl) (by decide) (rfl : T187.heap = T187.heap) (rm3 l Z a0 hw [] b187 a181 Lc187 [(Int32.ofNat (nn - 1))] T187.heap n0 Z190 V187 V189 (by omega) (by simp) (fun cI h => by have h' := hlast cI (by omega); rw [own_f1 h']; (repeat' split) <;> simp)) (by rw [hml]; rfl) pd_3 (argsL := [(.ref b187), (.ref a181)]) rfl (rest := []) rfl (hb hby at_175) 0 (Nat.le_of_eq rfl) (by decide) (by decide) (by decide) (by decide) 178 rfl (fun T191 L191 v191 X191 hQ191 => ?_)
    obtain ⟨r191, hQ191⟩ := hQ191
    rw [hl187] at hQ191
    obtain ⟨rfl, N191, K191, V191⟩ := hQ191
    have N192 := Fr.app N188 N191
    have V193 := V189.keep K191 nin0
    have V194 := V187.keep K191 nin0
    have Z195 : n0 ≤ T191.heap.size := Nat.le_trans Z190 K191.1
    show own_Go p e below G (T191.setTop (mkF m 178 #[.val (.int v0), .val (.int v1), .val (.int v2), .val (.int v3), .val (.int (Int32.ofNat nn)), .val (.int (1 : Int32)), .val (.int (Int32.ofNat (nn - 1))), .val (.int y176), .val (.int r177), .val (.int r179), .val (.ref a181), .val (.ref b187), .unset] [(.ref r191)]))
    refine own_astore X191 hx (hb hby at_178) rfl #[.val (.int v0), .val (.int v1), .val (.int v2), .val (.int v3), .val (.int (Int32.ofNat nn)), .val (.int (1 : Int32)), .val (.int (Int32.ofNat (nn - 1))), .val (.int y176), .val (.int r177), .val (.int r179), .val (.ref a181), .val (.ref b187), .val (.ref r191)] rfl 180 rfl ?_
    refine own_aload X191 hx (hb hby at_180) rfl rfl 182 rfl ?_
    refine own_arraylength X191 hx hZ (rfl : T191.heap = T191.heap) V191 (hb hby at_182) 183 rfl ?_
    rw [show Int32.ofNat (List.length ((List.range nn).map fun c => Int32.ofNat (own_first [(Int32.ofNat (nn - 1))] c))) = (Int32.ofNat nn) from (by simp)]
    refine own_iload X191 hx (hb hby at_183) rfl 185 rfl ?_
    refine own_icmpY X191 hx (hb hby at_185) (teq rfl).1 190 ⟨by decide, by decide⟩ ?_
    refine own_aload X191 hx (hb hby at_190) rfl rfl 192 rfl ?_
    refine own_aload X191 hx (hb hby at_192) rfl rfl 194 rfl ?_
    refine own_iload X191 hx (hb hby at_194) rfl 196 rfl ?_
    refine own_iconst X191 hx (hb hby at_196) (0 : Int32) rfl 197 rfl ?_
    refine own_callS X191 hx hZ hown (own_w hw 15 rfl) (own_w hw 16 rfl) (own_w hw 8 rfl) (own_w hw 17 rfl) (by decide) (rfl : T191.heap = T191.heap) (rmA1 l Z a0 hw [] r191 a181 nn 0 (Int32.ofNat (nn - 1)) T191.heap n0 hnn (by decide) (hlast 0) V191 V193) (by rw [hml]; rfl) pd_4 (argsL := [(.ref r191), (.ref a181), (.int (1 : Int32)), (.int (0 : Int32))]) rfl (rest := []) rfl (hb hby at_197) 0 (Nat.le_of_eq rfl) (by decide) (by decide) (by decide) (by decide) 200 rfl (fun T196 L196 v196 X196 hQ196 => ?_)
    obtain ⟨rfl, N196, e196⟩ := hQ196
    have N197 := Fr.app N192 N196
    show own_Go p e below G (T196.setTop (mkF m 200 #[.val (.int v0), .val (.int v1), .val (.int v2), .val (.int v3), .val (.int (Int32.ofNat nn)), .val (.int (1 : Int32)), .val (.int (Int32.ofNat (nn - 1))), .val (.int y176), .val (.int r177), .val (.int r179), .val (.ref a181), .val (.ref b187), .val (.ref r191)] [(.int (1 : Int32))]))
    refine own_ifN X196 hx (hb hby at_200) ((if0 _ _).trans (feq (by decide)).1) 203 rfl ?_
    refine own_aload X196 hx (hb hby at_203) rfl rfl 205 rfl ?_
    refine own_aload X196 hx (hb hby at_205) rfl rfl 207 rfl ?_
    refine own_iload X196 hx (hb hby at_207) rfl 209 rfl ?_
    refine own_iconst X196 hx (hb hby at_209) (1 : Int32) rfl 210 rfl ?_
    refine own_callS X196 hx hZ hown (own_w hw 15 rfl) (own_w hw 16 rfl) (own_w hw 8 rfl) (own_w hw 17 rfl) (by decide) e196 (rmA1 l Z a0 hw [] r191 a181 nn 1 (Int32.ofNat (nn - 1)) T191.heap n0 hnn (by decide) (hlast 1) V191 V193) (by rw [hml]; rfl) pd_4 (argsL := [(.ref r191), (.ref a181), (.int (1 : Int32)), (.int (1 : Int32))]) rfl (rest := []) rfl (hb hby at_210) 0 (Nat.le_of_eq rfl) (by decide) (by decide) (by decide) (by decide) 213 rfl (fun T198 L198 v198 X198 hQ198 => ?_)
    obtain ⟨rfl, N198, e198⟩ := hQ198
    have N199 := Fr.app N197 N198
    show own_Go p e below G (T198.setTop (mkF m 213 #[.val (.int v0), .val (.int v1), .val (.int v2), .val (.int v3), .val (.int (Int32.ofNat nn)), .val (.int (1 : Int32)), .val (.int (Int32.ofNat (nn - 1))), .val (.int y176), .val (.int r177), .val (.int r179), .val (.ref a181), .val (.ref b187), .val (.ref r191)] [(.int (1 : Int32))]))
    refine own_ifN X198 hx (hb hby at_213) ((if0 _ _).trans (feq (by decide)).1) 216 rfl ?_
    refine own_aload X198 hx (hb hby at_216) rfl rfl 218 rfl ?_
    refine own_aload X198 hx (hb hby at_218) rfl rfl 220 rfl ?_
    refine own_iload X198 hx (hb hby at_220) rfl 222 rfl ?_
    refine own_iconst X198 hx (hb hby at_222) (2 : Int32) rfl 223 rfl ?_
    refine own_callS X198 hx hZ hown (own_w hw 15 rfl) (own_w hw 16 rfl) (own_w hw 8 rfl) (own_w hw 17 rfl) (by decide) e198 (rmA1 l Z a0 hw [] r191 a181 nn 2 (Int32.ofNat (nn - 1)) T191.heap n0 hnn (by decide) (hlast 2) V191 V193) (by rw [hml]; rfl) pd_4 (argsL := [(.ref r191), (.ref a181), (.int (1 : Int32)), (.int (2 : Int32))]) rfl (rest := []) rfl (hb hby at_223) 0 (Nat.le_of_eq rfl) (by decide) (by decide) (by decide) (by decide) 226 rfl (fun T200 L200 v200 X200 hQ200 => ?_)
    obtain ⟨rfl, N200, e200⟩ := hQ200
    have N201 := Fr.app N199 N200
    show own_Go p e below G (T200.setTop (mkF m 226 #[.val (.int v0), .val (.int v1), .val (.int v2), .val (.int v3), .val (.int (Int32.ofNat nn)), .val (.int (1 : Int32)), .val (.int (Int32.ofNat (nn - 1))), .val (.int y176), .val (.int r177), .val (.int r179), .val (.ref a181), .val (.ref b187), .val (.ref r191)] [(.int (1 : Int32))]))
    refine own_ifN X200 hx (hb hby at_226) ((if0 _ _).trans (feq (by decide)).1) 229 rfl ?_
    refine own_aload X200 hx (hb hby at_229) rfl rfl 231 rfl ?_
    refine own_aload X200 hx (hb hby at_231) rfl rfl 233 rfl ?_
    refine own_iload X200 hx (hb hby at_233) rfl 235 rfl ?_
    refine own_iconst X200 hx (hb hby at_235) (3 : Int32) rfl 236 rfl ?_
    refine own_callS X200 hx hZ hown (own_w hw 15 rfl) (own_w hw 16 rfl) (own_w hw 8 rfl) (own_w hw 17 rfl) (by decide) e200 (rmA1 l Z a0 hw [] r191 a181 nn 3 (Int32.ofNat (nn - 1)) T191.heap n0 hnn (by decide) (hlast 3) V191 V193) (by rw [hml]; rfl) pd_4 (argsL := [(.ref r191), (.ref a181), (.int (1 : Int32)), (.int (3 : Int32))]) rfl (rest := []) rfl (hb hby at_236) 0 (Nat.le_of_eq rfl) (by decide) (by decide) (by decide) (by decide) 239 rfl (fun T202 L202 v202 X202 hQ202 => ?_)
    obtain ⟨rfl, N202, e202⟩ := hQ202
    have N203 := Fr.app N201 N202
    show own_Go p e below G (T202.setTop (mkF m 239 #[.val (.int v0), .val (.int v1), .val (.int v2), .val (.int v3), .val (.int (Int32.ofNat nn)), .val (.int (1 : Int32)), .val (.int (Int32.ofNat (nn - 1))), .val (.int y176), .val (.int r177), .val (.int r179), .val (.ref a181), .val (.ref b187), .val (.ref r191)] [(.int (1 : Int32))]))
    refine own_ifN X202 hx (hb hby at_239) ((if0 _ _).trans (feq (by decide)).1) 242 rfl ?_
    refine own_aload X202 hx (hb hby at_242) rfl rfl 244 rfl ?_
    refine own_aload X202 hx (hb hby at_244) rfl rfl 246 rfl ?_
    refine own_iload X202 hx (hb hby at_246) rfl 248 rfl ?_
    refine own_iconst X202 hx (hb hby at_248) (4 : Int32) rfl 249 rfl ?_
    refine own_callS X202 hx hZ hown (own_w hw 15 rfl) (own_w hw 16 rfl) (own_w hw 8 rfl) (own_w hw 17 rfl) (by decide) e202 (rmA1 l Z a0 hw [] r191 a181 nn 4 (Int32.ofNat (nn - 1)) T191.heap n0 hnn (by decide) (hlast 4) V191 V193) (by rw [hml]; rfl) pd_4 (argsL := [(.ref r191), (.ref a181), (.int (1 : Int32)), (.int (4 : Int32))]) rfl (rest := []) rfl (hb hby at_249) 0 (Nat.le_of_eq rfl) (by decide) (by decide) (by decide) (by decide) 252 rfl (fun T204 L204 v204 X204 hQ204 => ?_)
    obtain ⟨rfl, N204, e204⟩ := hQ204
    have N205 := Fr.app N203 N204
    show own_Go p e below G (T204.setTop (mkF m 252 #[.val (.int v0), .val (.int v1), .val (.int v2), .val (.int v3), .val (.int (Int32.ofNat nn)), .val (.int (1 : Int32)), .val (.int (Int32.ofNat (nn - 1))), .val (.int y176), .val (.int r177), .val (.int r179), .val (.ref a181), .val (.ref b187), .val (.ref r191)] [(.int (1 : Int32))]))
    refine own_ifN X204 hx (hb hby at_252) ((if0 _ _).trans (feq (by decide)).1) 255 rfl ?_
    refine own_aload X204 hx (hb hby at_255) rfl rfl 257 rfl ?_
    refine own_aload X204 hx (hb hby at_257) rfl rfl 259 rfl ?_
    refine own_iload X204 hx (hb hby at_259) rfl 261 rfl ?_
    refine own_iconst X204 hx (hb hby at_261) (5 : Int32) rfl 262 rfl ?_
    refine own_callS X204 hx hZ hown (own_w hw 15 rfl) (own_w hw 16 rfl) (own_w hw 8 rfl) (own_w hw 17 rfl) (by decide) e204 (rmA1 l Z a0 hw [] r191 a181 nn 5 (Int32.ofNat (nn - 1)) T191.heap n0 hnn (by decide) (hlast 5) V191 V193) (by rw [hml]; rfl) pd_4 (argsL := [(.ref r191), (.ref a181), (.int (1 : Int32)), (.int (5 : Int32))]) rfl (rest := []) rfl (hb hby at_262) 0 (Nat.le_of_eq rfl) (by decide) (by decide) (by decide) (by decide) 265 rfl (fun T206 L206 v206 X206 hQ206 => ?_)
    obtain ⟨rfl, N206, e206⟩ := hQ206
    have N207 := Fr.app N205 N206
    show own_Go p e below G (T206.setTop (mkF m 265 #[.val (.int v0), .val (.int v1), .val (.int v2), .val (.int v3), .val (.int (Int32.ofNat nn)), .val (.int (1 : Int32)), .val (.int (Int32.ofNat (nn - 1))), .val (.int y176), .val (.int r177), .val (.int r179), .val (.ref a181), .val (.ref b187), .val (.ref r191)] [(.int (1 : Int32))]))
    refine own_ifN X206 hx (hb hby at_265) ((if0 _ _).trans (feq (by decide)).1) 268 rfl ?_
    refine own_aload X206 hx (hb hby at_268) rfl rfl 270 rfl ?_
    refine own_aload X206 hx (hb hby at_270) rfl rfl 272 rfl ?_
    refine own_iload X206 hx (hb hby at_272) rfl 274 rfl ?_
    refine own_bipush X206 hx (hb hby at_274) (6 : Int32) rfl 276 rfl ?_
    refine own_callS X206 hx hZ hown (own_w hw 15 rfl) (own_w hw 16 rfl) (own_w hw 8 rfl) (own_w hw 17 rfl) (by decide) e206 (rmA1 l Z a0 hw [] r191 a181 nn 6 (Int32.ofNat (nn - 1)) T191.heap n0 hnn (by decide) (hlast 6) V191 V193) (by rw [hml]; rfl) pd_4 (argsL := [(.ref r191), (.ref a181), (.int (1 : Int32)), (.int (6 : Int32))]) rfl (rest := []) rfl (hb hby at_276) 0 (Nat.le_of_eq rfl) (by decide) (by decide) (by decide) (by decide) 279 rfl (fun T208 L208 v208 X208 hQ208 => ?_)
    obtain ⟨rfl, N208, e208⟩ := hQ208
    have N209 := Fr.app N207 N208
    show own_Go p e below G (T208.setTop (mkF m 279 #[.val (.int v0), .val (.int v1), .val (.int v2), .val (.int v3), .val (.int (Int32.ofNat nn)), .val (.int (1 : Int32)), .val (.int (Int32.ofNat (nn - 1))), .val (.int y176), .val (.int r177), .val (.int r179), .val (.ref a181), .val (.ref b187), .val (.ref r191)] [(.int (1 : Int32))]))
    refine own_ifN X208 hx (hb hby at_279) ((if0 _ _).trans (feq (by decide)).1) 282 rfl ?_
    refine own_iconst X208 hx (hb hby at_282) (1 : Int32) rfl 283 rfl ?_
    refine own_goto X208 hx (hb hby at_283) 287 ⟨by decide, by decide⟩ ?_
    refine own_nreturn X208 hx Bd.notSynchronized hG Bd.returns (by simp) (hb hby at_287) (by decide) (by decide) ?_
    rw [e208]
    exact ⟨rfl, N209⟩
  ·
    refine own_iload X179 hx (hb hby at_73) rfl 75 rfl ?_
    refine own_iconst X179 hx (hb hby at_75) (1 : Int32) rfl 76 rfl ?_
    refine own_icmpY X179 hx (hb hby at_76) (feq (by decide)).2 90 ⟨by decide, by decide⟩ ?_
    refine own_iload X179 hx (hb hby at_90) rfl 92 rfl ?_
    refine own_iconst X179 hx (hb hby at_92) (2 : Int32) rfl 93 rfl ?_
    refine own_icmpN X179 hx (hb hby at_93) (teq (by decide)).2 96 rfl ?_
    refine own_iconst X179 hx (hb hby at_96) (2 : Int32) rfl 97 rfl ?_
    refine own_newI X179 hx hZ (own_w hw 5 rfl) e179 (hb hby at_97) 2 rfl 2 (by decide) (by decide) (by decide) (by decide) 99 rfl (fun T210 h210 a210 g210 X210 e210 E210 V210 => ?_)
    have ge211 : n0 ≤ a210 := by rw [g210]; exact Z0
    have Z212 : n0 ≤ h210.size := Nat.le_trans Z0 E210.1
    rw [show (List.replicate 2 (0 : Int32)) = [(0 : Int32), (0 : Int32)] from rfl] at V210
    refine own_dup X210 hx (hb hby at_99) rfl 100 rfl ?_
    refine own_iconst X210 hx (hb hby at_100) (0 : Int32) rfl 101 rfl ?_
    refine own_iload X210 hx (hb hby at_101) rfl 103 rfl ?_
    refine own_iastore X210 hx hZ e210 V210 0 rfl (by simp) (hb hby at_103) 104 rfl (fun T213 h213 X213 e213 W213 V213 => ?_)
    rw [show [(0 : Int32), (0 : Int32)].set 0 y176 = [y176, (0 : Int32)] from rfl] at V213
    have N214 := Fr.snoc X213 N180 ge211
    have Z215 : n0 ≤ h213.size := by rw [W213.size]; exact Z212
    refine own_dup X213 hx (hb hby at_104) rfl 105 rfl ?_
    refine own_iconst X213 hx (hb hby at_105) (1 : Int32) rfl 106 rfl ?_
    refine own_iload X213 hx (hb hby at_106) rfl 108 rfl ?_
    refine own_iastore X213 hx hZ e213 V213 1 rfl (by simp) (hb hby at_108) 109 rfl (fun T216 h216 X216 e216 W216 V216 => ?_)
    rw [show [y176, (0 : Int32)].set 1 (Int32.ofNat (nn - 1)) = [y176, (Int32.ofNat (nn - 1))] from rfl] at V216
    have N217 := Fr.snoc X216 N214 ge211
    have Z218 : n0 ≤ h216.size := by rw [W216.size]; exact Z215
    have hlast : ∀ cI, cI < nn → ¬ Int32.ofNat (nn - 1) < Int32.ofNat cI := fun cI h => own_last hnn h
    refine own_goto X216 hx (hb hby at_109) 162 ⟨by decide, by decide⟩ ?_
    refine own_astore X216 hx (hb hby at_162) rfl #[.val (.int v0), .val (.int v1), .val (.int v2), .val (.int v3), .val (.int (Int32.ofNat nn)), .val (.int (2 : Int32)), .val (.int (Int32.ofNat (nn - 1))), .val (.int y176), .val (.int r177), .val (.int r179), .val (.ref a210), .unset, .unset] rfl 164 rfl ?_
    refine own_iload X216 hx (hb hby at_164) rfl 166 rfl ?_
    refine own_callS X216 hx hZ hown (own_w hw 6 rfl) (own_w hw 7 rfl) (own_w hw 8 rfl) (own_w hw 9 rfl) (by decide) e216 (rm2 l Z a0 hw [] nn h216 n0 hnn Z218) (by rw [hml]; rfl) pd_2 (argsL := [(.int (Int32.ofNat nn))]) rfl (rest := []) rfl (hb hby at_166) 0 (Nat.le_of_eq rfl) (by decide) (by decide) (by decide) (by decide) 169 rfl (fun T219 L219 v219 X219 hQ219 => ?_)
    obtain ⟨b219, Lc219, hQ219⟩ := hQ219
    obtain ⟨rfl, N219, K219, V219, hl219⟩ := hQ219
    have N220 := Fr.app N217 N219
    have V221 := V216.keep K219 nin0
    have Z222 : n0 ≤ T219.heap.size := Nat.le_trans Z218 K219.1
    show own_Go p e below G (T219.setTop (mkF m 169 #[.val (.int v0), .val (.int v1), .val (.int v2), .val (.int v3), .val (.int (Int32.ofNat nn)), .val (.int (2 : Int32)), .val (.int (Int32.ofNat (nn - 1))), .val (.int y176), .val (.int r177), .val (.int r179), .val (.ref a210), .unset, .unset] [(.ref b219)]))
    refine own_astore X219 hx (hb hby at_169) rfl #[.val (.int v0), .val (.int v1), .val (.int v2), .val (.int v3), .val (.int (Int32.ofNat nn)), .val (.int (2 : Int32)), .val (.int (Int32.ofNat (nn - 1))), .val (.int y176), .val (.int r177), .val (.int r179), .val (.ref a210), .val (.ref b219), .unset] rfl 171 rfl ?_
    refine own_aload X219 hx (hb hby at_171) rfl rfl 173 rfl ?_
    refine own_aload X219 hx (hb hby at_173) rfl rfl 175 rfl ?_
    refine own_callS X219 hx hZ hown (own_w hw 11 rfl) (own_w hw 12 rfl) (own_w hw 13 rfl) (own_w hw 14 rfl) (by decide) (rfl : T219.heap = T219.heap) (rm3 l Z a0 hw [] b219 a210 Lc219 [y176, (Int32.ofNat (nn - 1))] T219.heap n0 Z222 V219 V221 (by omega) (by simp) (fun cI h => by have h' := hlast cI (by omega); rw [own_f2 h']; (repeat' split) <;> simp)) (by rw [hml]; rfl) pd_3 (argsL := [(.ref b219), (.ref a210)]) rfl (rest := []) rfl (hb hby at_175) 0 (Nat.le_of_eq rfl) (by decide) (by decide) (by decide) (by decide) 178 rfl (fun T223 L223 v223 X223 hQ223 => ?_)
    obtain ⟨r223, hQ223⟩ := hQ223
    rw [hl219] at hQ223
    obtain ⟨rfl, N223, K223, V223⟩ := hQ223
    have N224 := Fr.app N220 N223
    have V225 := V221.keep K223 nin0
    have V226 := V219.keep K223 nin0
    have Z227 : n0 ≤ T223.heap.size := Nat.le_trans Z222 K223.1
    show own_Go p e below G (T223.setTop (mkF m 178 #[.val (.int v0), .val (.int v1), .val (.int v2), .val (.int v3), .val (.int (Int32.ofNat nn)), .val (.int (2 : Int32)), .val (.int (Int32.ofNat (nn - 1))), .val (.int y176), .val (.int r177), .val (.int r179), .val (.ref a210), .val (.ref b219), .unset] [(.ref r223)]))
    refine own_astore X223 hx (hb hby at_178) rfl #[.val (.int v0), .val (.int v1), .val (.int v2), .val (.int v3), .val (.int (Int32.ofNat nn)), .val (.int (2 : Int32)), .val (.int (Int32.ofNat (nn - 1))), .val (.int y176), .val (.int r177), .val (.int r179), .val (.ref a210), .val (.ref b219), .val (.ref r223)] rfl 180 rfl ?_
    refine own_aload X223 hx (hb hby at_180) rfl rfl 182 rfl ?_
    refine own_arraylength X223 hx hZ (rfl : T223.heap = T223.heap) V223 (hb hby at_182) 183 rfl ?_
    rw [show Int32.ofNat (List.length ((List.range nn).map fun c => Int32.ofNat (own_first [y176, (Int32.ofNat (nn - 1))] c))) = (Int32.ofNat nn) from (by simp)]
    refine own_iload X223 hx (hb hby at_183) rfl 185 rfl ?_
    refine own_icmpY X223 hx (hb hby at_185) (teq rfl).1 190 ⟨by decide, by decide⟩ ?_
    refine own_aload X223 hx (hb hby at_190) rfl rfl 192 rfl ?_
    refine own_aload X223 hx (hb hby at_192) rfl rfl 194 rfl ?_
    refine own_iload X223 hx (hb hby at_194) rfl 196 rfl ?_
    refine own_iconst X223 hx (hb hby at_196) (0 : Int32) rfl 197 rfl ?_
    refine own_callS X223 hx hZ hown (own_w hw 15 rfl) (own_w hw 16 rfl) (own_w hw 8 rfl) (own_w hw 17 rfl) (by decide) (rfl : T223.heap = T223.heap) (rmA2 l Z a0 hw [] r223 a210 nn 0 y176 (Int32.ofNat (nn - 1)) T223.heap n0 hnn (by decide) (hlast 0) V223 V225) (by rw [hml]; rfl) pd_4 (argsL := [(.ref r223), (.ref a210), (.int (2 : Int32)), (.int (0 : Int32))]) rfl (rest := []) rfl (hb hby at_197) 0 (Nat.le_of_eq rfl) (by decide) (by decide) (by decide) (by decide) 200 rfl (fun T228 L228 v228 X228 hQ228 => ?_)
    obtain ⟨rfl, N228, e228⟩ := hQ228
    have N229 := Fr.app N224 N228
    show own_Go p e below G (T228.setTop (mkF m 200 #[.val (.int v0), .val (.int v1), .val (.int v2), .val (.int v3), .val (.int (Int32.ofNat nn)), .val (.int (2 : Int32)), .val (.int (Int32.ofNat (nn - 1))), .val (.int y176), .val (.int r177), .val (.int r179), .val (.ref a210), .val (.ref b219), .val (.ref r223)] [(.int (1 : Int32))]))
    refine own_ifN X228 hx (hb hby at_200) ((if0 _ _).trans (feq (by decide)).1) 203 rfl ?_
    refine own_aload X228 hx (hb hby at_203) rfl rfl 205 rfl ?_
    refine own_aload X228 hx (hb hby at_205) rfl rfl 207 rfl ?_
    refine own_iload X228 hx (hb hby at_207) rfl 209 rfl ?_
    refine own_iconst X228 hx (hb hby at_209) (1 : Int32) rfl 210 rfl ?_
    refine own_callS X228 hx hZ hown (own_w hw 15 rfl) (own_w hw 16 rfl) (own_w hw 8 rfl) (own_w hw 17 rfl) (by decide) e228 (rmA2 l Z a0 hw [] r223 a210 nn 1 y176 (Int32.ofNat (nn - 1)) T223.heap n0 hnn (by decide) (hlast 1) V223 V225) (by rw [hml]; rfl) pd_4 (argsL := [(.ref r223), (.ref a210), (.int (2 : Int32)), (.int (1 : Int32))]) rfl (rest := []) rfl (hb hby at_210) 0 (Nat.le_of_eq rfl) (by decide) (by decide) (by decide) (by decide) 213 rfl (fun T230 L230 v230 X230 hQ230 => ?_)
    obtain ⟨rfl, N230, e230⟩ := hQ230
    have N231 := Fr.app N229 N230
    show own_Go p e below G (T230.setTop (mkF m 213 #[.val (.int v0), .val (.int v1), .val (.int v2), .val (.int v3), .val (.int (Int32.ofNat nn)), .val (.int (2 : Int32)), .val (.int (Int32.ofNat (nn - 1))), .val (.int y176), .val (.int r177), .val (.int r179), .val (.ref a210), .val (.ref b219), .val (.ref r223)] [(.int (1 : Int32))]))
    refine own_ifN X230 hx (hb hby at_213) ((if0 _ _).trans (feq (by decide)).1) 216 rfl ?_
    refine own_aload X230 hx (hb hby at_216) rfl rfl 218 rfl ?_
    refine own_aload X230 hx (hb hby at_218) rfl rfl 220 rfl ?_
    refine own_iload X230 hx (hb hby at_220) rfl 222 rfl ?_
    refine own_iconst X230 hx (hb hby at_222) (2 : Int32) rfl 223 rfl ?_
    refine own_callS X230 hx hZ hown (own_w hw 15 rfl) (own_w hw 16 rfl) (own_w hw 8 rfl) (own_w hw 17 rfl) (by decide) e230 (rmA2 l Z a0 hw [] r223 a210 nn 2 y176 (Int32.ofNat (nn - 1)) T223.heap n0 hnn (by decide) (hlast 2) V223 V225) (by rw [hml]; rfl) pd_4 (argsL := [(.ref r223), (.ref a210), (.int (2 : Int32)), (.int (2 : Int32))]) rfl (rest := []) rfl (hb hby at_223) 0 (Nat.le_of_eq rfl) (by decide) (by decide) (by decide) (by decide) 226 rfl (fun T232 L232 v232 X232 hQ232 => ?_)
    obtain ⟨rfl, N232, e232⟩ := hQ232
    have N233 := Fr.app N231 N232
    show own_Go p e below G (T232.setTop (mkF m 226 #[.val (.int v0), .val (.int v1), .val (.int v2), .val (.int v3), .val (.int (Int32.ofNat nn)), .val (.int (2 : Int32)), .val (.int (Int32.ofNat (nn - 1))), .val (.int y176), .val (.int r177), .val (.int r179), .val (.ref a210), .val (.ref b219), .val (.ref r223)] [(.int (1 : Int32))]))
    refine own_ifN X232 hx (hb hby at_226) ((if0 _ _).trans (feq (by decide)).1) 229 rfl ?_
    refine own_aload X232 hx (hb hby at_229) rfl rfl 231 rfl ?_
    refine own_aload X232 hx (hb hby at_231) rfl rfl 233 rfl ?_
    refine own_iload X232 hx (hb hby at_233) rfl 235 rfl ?_
    refine own_iconst X232 hx (hb hby at_235) (3 : Int32) rfl 236 rfl ?_
    refine own_callS X232 hx hZ hown (own_w hw 15 rfl) (own_w hw 16 rfl) (own_w hw 8 rfl) (own_w hw 17 rfl) (by decide) e232 (rmA2 l Z a0 hw [] r223 a210 nn 3 y176 (Int32.ofNat (nn - 1)) T223.heap n0 hnn (by decide) (hlast 3) V223 V225) (by rw [hml]; rfl) pd_4 (argsL := [(.ref r223), (.ref a210), (.int (2 : Int32)), (.int (3 : Int32))]) rfl (rest := []) rfl (hb hby at_236) 0 (Nat.le_of_eq rfl) (by decide) (by decide) (by decide) (by decide) 239 rfl (fun T234 L234 v234 X234 hQ234 => ?_)
    obtain ⟨rfl, N234, e234⟩ := hQ234
    have N235 := Fr.app N233 N234
    show own_Go p e below G (T234.setTop (mkF m 239 #[.val (.int v0), .val (.int v1), .val (.int v2), .val (.int v3), .val (.int (Int32.ofNat nn)), .val (.int (2 : Int32)), .val (.int (Int32.ofNat (nn - 1))), .val (.int y176), .val (.int r177), .val (.int r179), .val (.ref a210), .val (.ref b219), .val (.ref r223)] [(.int (1 : Int32))]))
    refine own_ifN X234 hx (hb hby at_239) ((if0 _ _).trans (feq (by decide)).1) 242 rfl ?_
    refine own_aload X234 hx (hb hby at_242) rfl rfl 244 rfl ?_
    refine own_aload X234 hx (hb hby at_244) rfl rfl 246 rfl ?_
    refine own_iload X234 hx (hb hby at_246) rfl 248 rfl ?_
    refine own_iconst X234 hx (hb hby at_248) (4 : Int32) rfl 249 rfl ?_
    refine own_callS X234 hx hZ hown (own_w hw 15 rfl) (own_w hw 16 rfl) (own_w hw 8 rfl) (own_w hw 17 rfl) (by decide) e234 (rmA2 l Z a0 hw [] r223 a210 nn 4 y176 (Int32.ofNat (nn - 1)) T223.heap n0 hnn (by decide) (hlast 4) V223 V225) (by rw [hml]; rfl) pd_4 (argsL := [(.ref r223), (.ref a210), (.int (2 : Int32)), (.int (4 : Int32))]) rfl (rest := []) rfl (hb hby at_249) 0 (Nat.le_of_eq rfl) (by decide) (by decide) (by decide) (by decide) 252 rfl (fun T236 L236 v236 X236 hQ236 => ?_)
    obtain ⟨rfl, N236, e236⟩ := hQ236
    have N237 := Fr.app N235 N236
    show own_Go p e below G (T236.setTop (mkF m 252 #[.val (.int v0), .val (.int v1), .val (.int v2), .val (.int v3), .val (.int (Int32.ofNat nn)), .val (.int (2 : Int32)), .val (.int (Int32.ofNat (nn - 1))), .val (.int y176), .val (.int r177), .val (.int r179), .val (.ref a210), .val (.ref b219), .val (.ref r223)] [(.int (1 : Int32))]))
    refine own_ifN X236 hx (hb hby at_252) ((if0 _ _).trans (feq (by decide)).1) 255 rfl ?_
    refine own_aload X236 hx (hb hby at_255) rfl rfl 257 rfl ?_
    refine own_aload X236 hx (hb hby at_257) rfl rfl 259 rfl ?_
    refine own_iload X236 hx (hb hby at_259) rfl 261 rfl ?_
    refine own_iconst X236 hx (hb hby at_261) (5 : Int32) rfl 262 rfl ?_
    refine own_callS X236 hx hZ hown (own_w hw 15 rfl) (own_w hw 16 rfl) (own_w hw 8 rfl) (own_w hw 17 rfl) (by decide) e236 (rmA2 l Z a0 hw [] r223 a210 nn 5 y176 (Int32.ofNat (nn - 1)) T223.heap n0 hnn (by decide) (hlast 5) V223 V225) (by rw [hml]; rfl) pd_4 (argsL := [(.ref r223), (.ref a210), (.int (2 : Int32)), (.int (5 : Int32))]) rfl (rest := []) rfl (hb hby at_262) 0 (Nat.le_of_eq rfl) (by decide) (by decide) (by decide) (by decide) 265 rfl (fun T238 L238 v238 X238 hQ238 => ?_)
    obtain ⟨rfl, N238, e238⟩ := hQ238
    have N239 := Fr.app N237 N238
    show own_Go p e below G (T238.setTop (mkF m 265 #[.val (.int v0), .val (.int v1), .val (.int v2), .val (.int v3), .val (.int (Int32.ofNat nn)), .val (.int (2 : Int32)), .val (.int (Int32.ofNat (nn - 1))), .val (.int y176), .val (.int r177), .val (.int r179), .val (.ref a210), .val (.ref b219), .val (.ref r223)] [(.int (1 : Int32))]))
    refine own_ifN X238 hx (hb hby at_265) ((if0 _ _).trans (feq (by decide)).1) 268 rfl ?_
    refine own_aload X238 hx (hb hby at_268) rfl rfl 270 rfl ?_
    refine own_aload X238 hx (hb hby at_270) rfl rfl 272 rfl ?_
    refine own_iload X238 hx (hb hby at_272) rfl 274 rfl ?_
    refine own_bipush X238 hx (hb hby at_274) (6 : Int32) rfl 276 rfl ?_
    refine own_callS X238 hx hZ hown (own_w hw 15 rfl) (own_w hw 16 rfl) (own_w hw 8 rfl) (own_w hw 17 rfl) (by decide) e238 (rmA2 l Z a0 hw [] r223 a210 nn 6 y176 (Int32.ofNat (nn - 1)) T223.heap n0 hnn (by decide) (hlast 6) V223 V225) (by rw [hml]; rfl) pd_4 (argsL := [(.ref r223), (.ref a210), (.int (2 : Int32)), (.int (6 : Int32))]) rfl (rest := []) rfl (hb hby at_276) 0 (Nat.le_of_eq rfl) (by decide) (by decide) (by decide) (by decide) 279 rfl (fun T240 L240 v240 X240 hQ240 => ?_)
    obtain ⟨rfl, N240, e240⟩ := hQ240
    have N241 := Fr.app N239 N240
    show own_Go p e below G (T240.setTop (mkF m 279 #[.val (.int v0), .val (.int v1), .val (.int v2), .val (.int v3), .val (.int (Int32.ofNat nn)), .val (.int (2 : Int32)), .val (.int (Int32.ofNat (nn - 1))), .val (.int y176), .val (.int r177), .val (.int r179), .val (.ref a210), .val (.ref b219), .val (.ref r223)] [(.int (1 : Int32))]))
    refine own_ifN X240 hx (hb hby at_279) ((if0 _ _).trans (feq (by decide)).1) 282 rfl ?_
    refine own_iconst X240 hx (hb hby at_282) (1 : Int32) rfl 283 rfl ?_
    refine own_goto X240 hx (hb hby at_283) 287 ⟨by decide, by decide⟩ ?_
    refine own_nreturn X240 hx Bd.notSynchronized hG Bd.returns (by simp) (hb hby at_287) (by decide) (by decide) ?_
    rw [e240]
    exact ⟨rfl, N241⟩
  ·
    refine own_iload X179 hx (hb hby at_73) rfl 75 rfl ?_
    refine own_iconst X179 hx (hb hby at_75) (1 : Int32) rfl 76 rfl ?_
    refine own_icmpY X179 hx (hb hby at_76) (feq (by decide)).2 90 ⟨by decide, by decide⟩ ?_
    refine own_iload X179 hx (hb hby at_90) rfl 92 rfl ?_
    refine own_iconst X179 hx (hb hby at_92) (2 : Int32) rfl 93 rfl ?_
    refine own_icmpY X179 hx (hb hby at_93) (feq (by decide)).2 112 ⟨by decide, by decide⟩ ?_
    refine own_iload X179 hx (hb hby at_112) rfl 114 rfl ?_
    refine own_iconst X179 hx (hb hby at_114) (3 : Int32) rfl 115 rfl ?_
    refine own_icmpN X179 hx (hb hby at_115) (teq (by decide)).2 118 rfl ?_
    refine own_iconst X179 hx (hb hby at_118) (3 : Int32) rfl 119 rfl ?_
    refine own_newI X179 hx hZ (own_w hw 5 rfl) e179 (hb hby at_119) 3 rfl 3 (by decide) (by decide) (by decide) (by decide) 121 rfl (fun T242 h242 a242 g242 X242 e242 E242 V242 => ?_)
    have ge243 : n0 ≤ a242 := by rw [g242]; exact Z0
    have Z244 : n0 ≤ h242.size := Nat.le_trans Z0 E242.1
    rw [show (List.replicate 3 (0 : Int32)) = [(0 : Int32), (0 : Int32), (0 : Int32)] from rfl] at V242
    refine own_dup X242 hx (hb hby at_121) rfl 122 rfl ?_
    refine own_iconst X242 hx (hb hby at_122) (0 : Int32) rfl 123 rfl ?_
    refine own_iload X242 hx (hb hby at_123) rfl 125 rfl ?_
    refine own_iastore X242 hx hZ e242 V242 0 rfl (by simp) (hb hby at_125) 126 rfl (fun T245 h245 X245 e245 W245 V245 => ?_)
    rw [show [(0 : Int32), (0 : Int32), (0 : Int32)].set 0 y176 = [y176, (0 : Int32), (0 : Int32)] from rfl] at V245
    have N246 := Fr.snoc X245 N180 ge243
    have Z247 : n0 ≤ h245.size := by rw [W245.size]; exact Z244
    refine own_dup X245 hx (hb hby at_126) rfl 127 rfl ?_
    refine own_iconst X245 hx (hb hby at_127) (1 : Int32) rfl 128 rfl ?_
    refine own_iload X245 hx (hb hby at_128) rfl 130 rfl ?_
    refine own_iastore X245 hx hZ e245 V245 1 rfl (by simp) (hb hby at_130) 131 rfl (fun T248 h248 X248 e248 W248 V248 => ?_)
    rw [show [y176, (0 : Int32), (0 : Int32)].set 1 r177 = [y176, r177, (0 : Int32)] from rfl] at V248
    have N249 := Fr.snoc X248 N246 ge243
    have Z250 : n0 ≤ h248.size := by rw [W248.size]; exact Z247
    refine own_dup X248 hx (hb hby at_131) rfl 132 rfl ?_
    refine own_iconst X248 hx (hb hby at_132) (2 : Int32) rfl 133 rfl ?_
    refine own_iload X248 hx (hb hby at_133) rfl 135 rfl ?_
    refine own_iastore X248 hx hZ e248 V248 2 rfl (by simp) (hb hby at_135) 136 rfl (fun T251 h251 X251 e251 W251 V251 => ?_)
    rw [show [y176, r177, (0 : Int32)].set 2 (Int32.ofNat (nn - 1)) = [y176, r177, (Int32.ofNat (nn - 1))] from rfl] at V251
    have N252 := Fr.snoc X251 N249 ge243
    have Z253 : n0 ≤ h251.size := by rw [W251.size]; exact Z250
    have hlast : ∀ cI, cI < nn → ¬ Int32.ofNat (nn - 1) < Int32.ofNat cI := fun cI h => own_last hnn h
    refine own_goto X251 hx (hb hby at_136) 162 ⟨by decide, by decide⟩ ?_
    refine own_astore X251 hx (hb hby at_162) rfl #[.val (.int v0), .val (.int v1), .val (.int v2), .val (.int v3), .val (.int (Int32.ofNat nn)), .val (.int (3 : Int32)), .val (.int (Int32.ofNat (nn - 1))), .val (.int y176), .val (.int r177), .val (.int r179), .val (.ref a242), .unset, .unset] rfl 164 rfl ?_
    refine own_iload X251 hx (hb hby at_164) rfl 166 rfl ?_
    refine own_callS X251 hx hZ hown (own_w hw 6 rfl) (own_w hw 7 rfl) (own_w hw 8 rfl) (own_w hw 9 rfl) (by decide) e251 (rm2 l Z a0 hw [] nn h251 n0 hnn Z253) (by rw [hml]; rfl) pd_2 (argsL := [(.int (Int32.ofNat nn))]) rfl (rest := []) rfl (hb hby at_166) 0 (Nat.le_of_eq rfl) (by decide) (by decide) (by decide) (by decide) 169 rfl (fun T254 L254 v254 X254 hQ254 => ?_)
    obtain ⟨b254, Lc254, hQ254⟩ := hQ254
    obtain ⟨rfl, N254, K254, V254, hl254⟩ := hQ254
    have N255 := Fr.app N252 N254
    have V256 := V251.keep K254 nin0
    have Z257 : n0 ≤ T254.heap.size := Nat.le_trans Z253 K254.1
    show own_Go p e below G (T254.setTop (mkF m 169 #[.val (.int v0), .val (.int v1), .val (.int v2), .val (.int v3), .val (.int (Int32.ofNat nn)), .val (.int (3 : Int32)), .val (.int (Int32.ofNat (nn - 1))), .val (.int y176), .val (.int r177), .val (.int r179), .val (.ref a242), .unset, .unset] [(.ref b254)]))
    refine own_astore X254 hx (hb hby at_169) rfl #[.val (.int v0), .val (.int v1), .val (.int v2), .val (.int v3), .val (.int (Int32.ofNat nn)), .val (.int (3 : Int32)), .val (.int (Int32.ofNat (nn - 1))), .val (.int y176), .val (.int r177), .val (.int r179), .val (.ref a242), .val (.ref b254), .unset] rfl 171 rfl ?_
    refine own_aload X254 hx (hb hby at_171) rfl rfl 173 rfl ?_
    refine own_aload X254 hx (hb hby at_173) rfl rfl 175 rfl ?_
    refine own_callS X254 hx hZ hown (own_w hw 11 rfl) (own_w hw 12 rfl) (own_w hw 13 rfl) (own_w hw 14 rfl) (by decide) (rfl : T254.heap = T254.heap) (rm3 l Z a0 hw [] b254 a242 Lc254 [y176, r177, (Int32.ofNat (nn - 1))] T254.heap n0 Z257 V254 V256 (by omega) (by simp) (fun cI h => by have h' := hlast cI (by omega); rw [own_f3 h']; (repeat' split) <;> simp)) (by rw [hml]; rfl) pd_3 (argsL := [(.ref b254), (.ref a242)]) rfl (rest := []) rfl (hb hby at_175) 0 (Nat.le_of_eq rfl) (by decide) (by decide) (by decide) (by decide) 178 rfl (fun T258 L258 v258 X258 hQ258 => ?_)
    obtain ⟨r258, hQ258⟩ := hQ258
    rw [hl254] at hQ258
    obtain ⟨rfl, N258, K258, V258⟩ := hQ258
    have N259 := Fr.app N255 N258
    have V260 := V256.keep K258 nin0
    have V261 := V254.keep K258 nin0
    have Z262 : n0 ≤ T258.heap.size := Nat.le_trans Z257 K258.1
    show own_Go p e below G (T258.setTop (mkF m 178 #[.val (.int v0), .val (.int v1), .val (.int v2), .val (.int v3), .val (.int (Int32.ofNat nn)), .val (.int (3 : Int32)), .val (.int (Int32.ofNat (nn - 1))), .val (.int y176), .val (.int r177), .val (.int r179), .val (.ref a242), .val (.ref b254), .unset] [(.ref r258)]))
    refine own_astore X258 hx (hb hby at_178) rfl #[.val (.int v0), .val (.int v1), .val (.int v2), .val (.int v3), .val (.int (Int32.ofNat nn)), .val (.int (3 : Int32)), .val (.int (Int32.ofNat (nn - 1))), .val (.int y176), .val (.int r177), .val (.int r179), .val (.ref a242), .val (.ref b254), .val (.ref r258)] rfl 180 rfl ?_
    refine own_aload X258 hx (hb hby at_180) rfl rfl 182 rfl ?_
    refine own_arraylength X258 hx hZ (rfl : T258.heap = T258.heap) V258 (hb hby at_182) 183 rfl ?_
    rw [show Int32.ofNat (List.length ((List.range nn).map fun c => Int32.ofNat (own_first [y176, r177, (Int32.ofNat (nn - 1))] c))) = (Int32.ofNat nn) from (by simp)]
    refine own_iload X258 hx (hb hby at_183) rfl 185 rfl ?_
    refine own_icmpY X258 hx (hb hby at_185) (teq rfl).1 190 ⟨by decide, by decide⟩ ?_
    refine own_aload X258 hx (hb hby at_190) rfl rfl 192 rfl ?_
    refine own_aload X258 hx (hb hby at_192) rfl rfl 194 rfl ?_
    refine own_iload X258 hx (hb hby at_194) rfl 196 rfl ?_
    refine own_iconst X258 hx (hb hby at_196) (0 : Int32) rfl 197 rfl ?_
    refine own_callS X258 hx hZ hown (own_w hw 15 rfl) (own_w hw 16 rfl) (own_w hw 8 rfl) (own_w hw 17 rfl) (by decide) (rfl : T258.heap = T258.heap) (rmA3 l Z a0 hw [] r258 a242 nn 0 y176 r177 (Int32.ofNat (nn - 1)) T258.heap n0 hnn (by decide) (hlast 0) V258 V260) (by rw [hml]; rfl) pd_4 (argsL := [(.ref r258), (.ref a242), (.int (3 : Int32)), (.int (0 : Int32))]) rfl (rest := []) rfl (hb hby at_197) 0 (Nat.le_of_eq rfl) (by decide) (by decide) (by decide) (by decide) 200 rfl (fun T263 L263 v263 X263 hQ263 => ?_)
    obtain ⟨rfl, N263, e263⟩ := hQ263
    have N264 := Fr.app N259 N263
    show own_Go p e below G (T263.setTop (mkF m 200 #[.val (.int v0), .val (.int v1), .val (.int v2), .val (.int v3), .val (.int (Int32.ofNat nn)), .val (.int (3 : Int32)), .val (.int (Int32.ofNat (nn - 1))), .val (.int y176), .val (.int r177), .val (.int r179), .val (.ref a242), .val (.ref b254), .val (.ref r258)] [(.int (1 : Int32))]))
    refine own_ifN X263 hx (hb hby at_200) ((if0 _ _).trans (feq (by decide)).1) 203 rfl ?_
    refine own_aload X263 hx (hb hby at_203) rfl rfl 205 rfl ?_
    refine own_aload X263 hx (hb hby at_205) rfl rfl 207 rfl ?_
    refine own_iload X263 hx (hb hby at_207) rfl 209 rfl ?_
    refine own_iconst X263 hx (hb hby at_209) (1 : Int32) rfl 210 rfl ?_
    refine own_callS X263 hx hZ hown (own_w hw 15 rfl) (own_w hw 16 rfl) (own_w hw 8 rfl) (own_w hw 17 rfl) (by decide) e263 (rmA3 l Z a0 hw [] r258 a242 nn 1 y176 r177 (Int32.ofNat (nn - 1)) T258.heap n0 hnn (by decide) (hlast 1) V258 V260) (by rw [hml]; rfl) pd_4 (argsL := [(.ref r258), (.ref a242), (.int (3 : Int32)), (.int (1 : Int32))]) rfl (rest := []) rfl (hb hby at_210) 0 (Nat.le_of_eq rfl) (by decide) (by decide) (by decide) (by decide) 213 rfl (fun T265 L265 v265 X265 hQ265 => ?_)
    obtain ⟨rfl, N265, e265⟩ := hQ265
    have N266 := Fr.app N264 N265
    show own_Go p e below G (T265.setTop (mkF m 213 #[.val (.int v0), .val (.int v1), .val (.int v2), .val (.int v3), .val (.int (Int32.ofNat nn)), .val (.int (3 : Int32)), .val (.int (Int32.ofNat (nn - 1))), .val (.int y176), .val (.int r177), .val (.int r179), .val (.ref a242), .val (.ref b254), .val (.ref r258)] [(.int (1 : Int32))]))
    refine own_ifN X265 hx (hb hby at_213) ((if0 _ _).trans (feq (by decide)).1) 216 rfl ?_
    refine own_aload X265 hx (hb hby at_216) rfl rfl 218 rfl ?_
    refine own_aload X265 hx (hb hby at_218) rfl rfl 220 rfl ?_
    refine own_iload X265 hx (hb hby at_220) rfl 222 rfl ?_
    refine own_iconst X265 hx (hb hby at_222) (2 : Int32) rfl 223 rfl ?_
    refine own_callS X265 hx hZ hown (own_w hw 15 rfl) (own_w hw 16 rfl) (own_w hw 8 rfl) (own_w hw 17 rfl) (by decide) e265 (rmA3 l Z a0 hw [] r258 a242 nn 2 y176 r177 (Int32.ofNat (nn - 1)) T258.heap n0 hnn (by decide) (hlast 2) V258 V260) (by rw [hml]; rfl) pd_4 (argsL := [(.ref r258), (.ref a242), (.int (3 : Int32)), (.int (2 : Int32))]) rfl (rest := []) rfl (hb hby at_223) 0 (Nat.le_of_eq rfl) (by decide) (by decide) (by decide) (by decide) 226 rfl (fun T267 L267 v267 X267 hQ267 => ?_)
    obtain ⟨rfl, N267, e267⟩ := hQ267
    have N268 := Fr.app N266 N267
    show own_Go p e below G (T267.setTop (mkF m 226 #[.val (.int v0), .val (.int v1), .val (.int v2), .val (.int v3), .val (.int (Int32.ofNat nn)), .val (.int (3 : Int32)), .val (.int (Int32.ofNat (nn - 1))), .val (.int y176), .val (.int r177), .val (.int r179), .val (.ref a242), .val (.ref b254), .val (.ref r258)] [(.int (1 : Int32))]))
    refine own_ifN X267 hx (hb hby at_226) ((if0 _ _).trans (feq (by decide)).1) 229 rfl ?_
    refine own_aload X267 hx (hb hby at_229) rfl rfl 231 rfl ?_
    refine own_aload X267 hx (hb hby at_231) rfl rfl 233 rfl ?_
    refine own_iload X267 hx (hb hby at_233) rfl 235 rfl ?_
    refine own_iconst X267 hx (hb hby at_235) (3 : Int32) rfl 236 rfl ?_
    refine own_callS X267 hx hZ hown (own_w hw 15 rfl) (own_w hw 16 rfl) (own_w hw 8 rfl) (own_w hw 17 rfl) (by decide) e267 (rmA3 l Z a0 hw [] r258 a242 nn 3 y176 r177 (Int32.ofNat (nn - 1)) T258.heap n0 hnn (by decide) (hlast 3) V258 V260) (by rw [hml]; rfl) pd_4 (argsL := [(.ref r258), (.ref a242), (.int (3 : Int32)), (.int (3 : Int32))]) rfl (rest := []) rfl (hb hby at_236) 0 (Nat.le_of_eq rfl) (by decide) (by decide) (by decide) (by decide) 239 rfl (fun T269 L269 v269 X269 hQ269 => ?_)
    obtain ⟨rfl, N269, e269⟩ := hQ269
    have N270 := Fr.app N268 N269
    show own_Go p e below G (T269.setTop (mkF m 239 #[.val (.int v0), .val (.int v1), .val (.int v2), .val (.int v3), .val (.int (Int32.ofNat nn)), .val (.int (3 : Int32)), .val (.int (Int32.ofNat (nn - 1))), .val (.int y176), .val (.int r177), .val (.int r179), .val (.ref a242), .val (.ref b254), .val (.ref r258)] [(.int (1 : Int32))]))
    refine own_ifN X269 hx (hb hby at_239) ((if0 _ _).trans (feq (by decide)).1) 242 rfl ?_
    refine own_aload X269 hx (hb hby at_242) rfl rfl 244 rfl ?_
    refine own_aload X269 hx (hb hby at_244) rfl rfl 246 rfl ?_
    refine own_iload X269 hx (hb hby at_246) rfl 248 rfl ?_
    refine own_iconst X269 hx (hb hby at_248) (4 : Int32) rfl 249 rfl ?_
    refine own_callS X269 hx hZ hown (own_w hw 15 rfl) (own_w hw 16 rfl) (own_w hw 8 rfl) (own_w hw 17 rfl) (by decide) e269 (rmA3 l Z a0 hw [] r258 a242 nn 4 y176 r177 (Int32.ofNat (nn - 1)) T258.heap n0 hnn (by decide) (hlast 4) V258 V260) (by rw [hml]; rfl) pd_4 (argsL := [(.ref r258), (.ref a242), (.int (3 : Int32)), (.int (4 : Int32))]) rfl (rest := []) rfl (hb hby at_249) 0 (Nat.le_of_eq rfl) (by decide) (by decide) (by decide) (by decide) 252 rfl (fun T271 L271 v271 X271 hQ271 => ?_)
    obtain ⟨rfl, N271, e271⟩ := hQ271
    have N272 := Fr.app N270 N271
    show own_Go p e below G (T271.setTop (mkF m 252 #[.val (.int v0), .val (.int v1), .val (.int v2), .val (.int v3), .val (.int (Int32.ofNat nn)), .val (.int (3 : Int32)), .val (.int (Int32.ofNat (nn - 1))), .val (.int y176), .val (.int r177), .val (.int r179), .val (.ref a242), .val (.ref b254), .val (.ref r258)] [(.int (1 : Int32))]))
    refine own_ifN X271 hx (hb hby at_252) ((if0 _ _).trans (feq (by decide)).1) 255 rfl ?_
    refine own_aload X271 hx (hb hby at_255) rfl rfl 257 rfl ?_
    refine own_aload X271 hx (hb hby at_257) rfl rfl 259 rfl ?_
    refine own_iload X271 hx (hb hby at_259) rfl 261 rfl ?_
    refine own_iconst X271 hx (hb hby at_261) (5 : Int32) rfl 262 rfl ?_
    refine own_callS X271 hx hZ hown (own_w hw 15 rfl) (own_w hw 16 rfl) (own_w hw 8 rfl) (own_w hw 17 rfl) (by decide) e271 (rmA3 l Z a0 hw [] r258 a242 nn 5 y176 r177 (Int32.ofNat (nn - 1)) T258.heap n0 hnn (by decide) (hlast 5) V258 V260) (by rw [hml]; rfl) pd_4 (argsL := [(.ref r258), (.ref a242), (.int (3 : Int32)), (.int (5 : Int32))]) rfl (rest := []) rfl (hb hby at_262) 0 (Nat.le_of_eq rfl) (by decide) (by decide) (by decide) (by decide) 265 rfl (fun T273 L273 v273 X273 hQ273 => ?_)
    obtain ⟨rfl, N273, e273⟩ := hQ273
    have N274 := Fr.app N272 N273
    show own_Go p e below G (T273.setTop (mkF m 265 #[.val (.int v0), .val (.int v1), .val (.int v2), .val (.int v3), .val (.int (Int32.ofNat nn)), .val (.int (3 : Int32)), .val (.int (Int32.ofNat (nn - 1))), .val (.int y176), .val (.int r177), .val (.int r179), .val (.ref a242), .val (.ref b254), .val (.ref r258)] [(.int (1 : Int32))]))
    refine own_ifN X273 hx (hb hby at_265) ((if0 _ _).trans (feq (by decide)).1) 268 rfl ?_
    refine own_aload X273 hx (hb hby at_268) rfl rfl 270 rfl ?_
    refine own_aload X273 hx (hb hby at_270) rfl rfl 272 rfl ?_
    refine own_iload X273 hx (hb hby at_272) rfl 274 rfl ?_
    refine own_bipush X273 hx (hb hby at_274) (6 : Int32) rfl 276 rfl ?_
    refine own_callS X273 hx hZ hown (own_w hw 15 rfl) (own_w hw 16 rfl) (own_w hw 8 rfl) (own_w hw 17 rfl) (by decide) e273 (rmA3 l Z a0 hw [] r258 a242 nn 6 y176 r177 (Int32.ofNat (nn - 1)) T258.heap n0 hnn (by decide) (hlast 6) V258 V260) (by rw [hml]; rfl) pd_4 (argsL := [(.ref r258), (.ref a242), (.int (3 : Int32)), (.int (6 : Int32))]) rfl (rest := []) rfl (hb hby at_276) 0 (Nat.le_of_eq rfl) (by decide) (by decide) (by decide) (by decide) 279 rfl (fun T275 L275 v275 X275 hQ275 => ?_)
    obtain ⟨rfl, N275, e275⟩ := hQ275
    have N276 := Fr.app N274 N275
    show own_Go p e below G (T275.setTop (mkF m 279 #[.val (.int v0), .val (.int v1), .val (.int v2), .val (.int v3), .val (.int (Int32.ofNat nn)), .val (.int (3 : Int32)), .val (.int (Int32.ofNat (nn - 1))), .val (.int y176), .val (.int r177), .val (.int r179), .val (.ref a242), .val (.ref b254), .val (.ref r258)] [(.int (1 : Int32))]))
    refine own_ifN X275 hx (hb hby at_279) ((if0 _ _).trans (feq (by decide)).1) 282 rfl ?_
    refine own_iconst X275 hx (hb hby at_282) (1 : Int32) rfl 283 rfl ?_
    refine own_goto X275 hx (hb hby at_283) 287 ⟨by decide, by decide⟩ ?_
    refine own_nreturn X275 hx Bd.notSynchronized hG Bd.returns (by simp) (hb hby at_287) (by decide) (by decide) ?_
    rw [e275]
    exact ⟨rfl, N276⟩
  ·
    refine own_iload X179 hx (hb hby at_73) rfl 75 rfl ?_
    refine own_iconst X179 hx (hb hby at_75) (1 : Int32) rfl 76 rfl ?_
    refine own_icmpY X179 hx (hb hby at_76) (feq (by decide)).2 90 ⟨by decide, by decide⟩ ?_
    refine own_iload X179 hx (hb hby at_90) rfl 92 rfl ?_
    refine own_iconst X179 hx (hb hby at_92) (2 : Int32) rfl 93 rfl ?_
    refine own_icmpY X179 hx (hb hby at_93) (feq (by decide)).2 112 ⟨by decide, by decide⟩ ?_
    refine own_iload X179 hx (hb hby at_112) rfl 114 rfl ?_
    refine own_iconst X179 hx (hb hby at_114) (3 : Int32) rfl 115 rfl ?_
    refine own_icmpY X179 hx (hb hby at_115) (feq (by decide)).2 139 ⟨by decide, by decide⟩ ?_
    refine own_iconst X179 hx (hb hby at_139) (4 : Int32) rfl 140 rfl ?_
    refine own_newI X179 hx hZ (own_w hw 5 rfl) e179 (hb hby at_140) 4 rfl 4 (by decide) (by decide) (by decide) (by decide) 142 rfl (fun T277 h277 a277 g277 X277 e277 E277 V277 => ?_)
    have ge278 : n0 ≤ a277 := by rw [g277]; exact Z0
    have Z279 : n0 ≤ h277.size := Nat.le_trans Z0 E277.1
    rw [show (List.replicate 4 (0 : Int32)) = [(0 : Int32), (0 : Int32), (0 : Int32), (0 : Int32)] from rfl] at V277
    refine own_dup X277 hx (hb hby at_142) rfl 143 rfl ?_
    refine own_iconst X277 hx (hb hby at_143) (0 : Int32) rfl 144 rfl ?_
    refine own_iload X277 hx (hb hby at_144) rfl 146 rfl ?_
    refine own_iastore X277 hx hZ e277 V277 0 rfl (by simp) (hb hby at_146) 147 rfl (fun T280 h280 X280 e280 W280 V280 => ?_)
    rw [show [(0 : Int32), (0 : Int32), (0 : Int32), (0 : Int32)].set 0 y176 = [y176, (0 : Int32), (0 : Int32), (0 : Int32)] from rfl] at V280
    have N281 := Fr.snoc X280 N180 ge278
    have Z282 : n0 ≤ h280.size := by rw [W280.size]; exact Z279
    refine own_dup X280 hx (hb hby at_147) rfl 148 rfl ?_
    refine own_iconst X280 hx (hb hby at_148) (1 : Int32) rfl 149 rfl ?_
    refine own_iload X280 hx (hb hby at_149) rfl 151 rfl ?_
    refine own_iastore X280 hx hZ e280 V280 1 rfl (by simp) (hb hby at_151) 152 rfl (fun T283 h283 X283 e283 W283 V283 => ?_)
    rw [show [y176, (0 : Int32), (0 : Int32), (0 : Int32)].set 1 r177 = [y176, r177, (0 : Int32), (0 : Int32)] from rfl] at V283
    have N284 := Fr.snoc X283 N281 ge278
    have Z285 : n0 ≤ h283.size := by rw [W283.size]; exact Z282
    refine own_dup X283 hx (hb hby at_152) rfl 153 rfl ?_
    refine own_iconst X283 hx (hb hby at_153) (2 : Int32) rfl 154 rfl ?_
    refine own_iload X283 hx (hb hby at_154) rfl 156 rfl ?_
    refine own_iastore X283 hx hZ e283 V283 2 rfl (by simp) (hb hby at_156) 157 rfl (fun T286 h286 X286 e286 W286 V286 => ?_)
    rw [show [y176, r177, (0 : Int32), (0 : Int32)].set 2 r179 = [y176, r177, r179, (0 : Int32)] from rfl] at V286
    have N287 := Fr.snoc X286 N284 ge278
    have Z288 : n0 ≤ h286.size := by rw [W286.size]; exact Z285
    refine own_dup X286 hx (hb hby at_157) rfl 158 rfl ?_
    refine own_iconst X286 hx (hb hby at_158) (3 : Int32) rfl 159 rfl ?_
    refine own_iload X286 hx (hb hby at_159) rfl 161 rfl ?_
    refine own_iastore X286 hx hZ e286 V286 3 rfl (by simp) (hb hby at_161) 162 rfl (fun T289 h289 X289 e289 W289 V289 => ?_)
    rw [show [y176, r177, r179, (0 : Int32)].set 3 (Int32.ofNat (nn - 1)) = [y176, r177, r179, (Int32.ofNat (nn - 1))] from rfl] at V289
    have N290 := Fr.snoc X289 N287 ge278
    have Z291 : n0 ≤ h289.size := by rw [W289.size]; exact Z288
    have hlast : ∀ cI, cI < nn → ¬ Int32.ofNat (nn - 1) < Int32.ofNat cI := fun cI h => own_last hnn h
    refine own_astore X289 hx (hb hby at_162) rfl #[.val (.int v0), .val (.int v1), .val (.int v2), .val (.int v3), .val (.int (Int32.ofNat nn)), .val (.int (4 : Int32)), .val (.int (Int32.ofNat (nn - 1))), .val (.int y176), .val (.int r177), .val (.int r179), .val (.ref a277), .unset, .unset] rfl 164 rfl ?_
    refine own_iload X289 hx (hb hby at_164) rfl 166 rfl ?_
    refine own_callS X289 hx hZ hown (own_w hw 6 rfl) (own_w hw 7 rfl) (own_w hw 8 rfl) (own_w hw 9 rfl) (by decide) e289 (rm2 l Z a0 hw [] nn h289 n0 hnn Z291) (by rw [hml]; rfl) pd_2 (argsL := [(.int (Int32.ofNat nn))]) rfl (rest := []) rfl (hb hby at_166) 0 (Nat.le_of_eq rfl) (by decide) (by decide) (by decide) (by decide) 169 rfl (fun T292 L292 v292 X292 hQ292 => ?_)
    obtain ⟨b292, Lc292, hQ292⟩ := hQ292
    obtain ⟨rfl, N292, K292, V292, hl292⟩ := hQ292
    have N293 := Fr.app N290 N292
    have V294 := V289.keep K292 nin0
    have Z295 : n0 ≤ T292.heap.size := Nat.le_trans Z291 K292.1
    show own_Go p e below G (T292.setTop (mkF m 169 #[.val (.int v0), .val (.int v1), .val (.int v2), .val (.int v3), .val (.int (Int32.ofNat nn)), .val (.int (4 : Int32)), .val (.int (Int32.ofNat (nn - 1))), .val (.int y176), .val (.int r177), .val (.int r179), .val (.ref a277), .unset, .unset] [(.ref b292)]))
    refine own_astore X292 hx (hb hby at_169) rfl #[.val (.int v0), .val (.int v1), .val (.int v2), .val (.int v3), .val (.int (Int32.ofNat nn)), .val (.int (4 : Int32)), .val (.int (Int32.ofNat (nn - 1))), .val (.int y176), .val (.int r177), .val (.int r179), .val (.ref a277), .val (.ref b292), .unset] rfl 171 rfl ?_
    refine own_aload X292 hx (hb hby at_171) rfl rfl 173 rfl ?_
    refine own_aload X292 hx (hb hby at_173) rfl rfl 175 rfl ?_
    refine own_callS X292 hx hZ hown (own_w hw 11 rfl) (own_w hw 12 rfl) (own_w hw 13 rfl) (own_w hw 14 rfl) (by decide) (rfl : T292.heap = T292.heap) (rm3 l Z a0 hw [] b292 a277 Lc292 [y176, r177, r179, (Int32.ofNat (nn - 1))] T292.heap n0 Z295 V292 V294 (by omega) (by simp) (fun cI h => by have h' := hlast cI (by omega); rw [own_f4 h']; (repeat' split) <;> simp)) (by rw [hml]; rfl) pd_3 (argsL := [(.ref b292), (.ref a277)]) rfl (rest := []) rfl (hb hby at_175) 0 (Nat.le_of_eq rfl) (by decide) (by decide) (by decide) (by decide) 178 rfl (fun T296 L296 v296 X296 hQ296 => ?_)
    obtain ⟨r296, hQ296⟩ := hQ296
    rw [hl292] at hQ296
    obtain ⟨rfl, N296, K296, V296⟩ := hQ296
    have N297 := Fr.app N293 N296
    have V298 := V294.keep K296 nin0
    have V299 := V292.keep K296 nin0
    have Z300 : n0 ≤ T296.heap.size := Nat.le_trans Z295 K296.1
    show own_Go p e below G (T296.setTop (mkF m 178 #[.val (.int v0), .val (.int v1), .val (.int v2), .val (.int v3), .val (.int (Int32.ofNat nn)), .val (.int (4 : Int32)), .val (.int (Int32.ofNat (nn - 1))), .val (.int y176), .val (.int r177), .val (.int r179), .val (.ref a277), .val (.ref b292), .unset] [(.ref r296)]))
    refine own_astore X296 hx (hb hby at_178) rfl #[.val (.int v0), .val (.int v1), .val (.int v2), .val (.int v3), .val (.int (Int32.ofNat nn)), .val (.int (4 : Int32)), .val (.int (Int32.ofNat (nn - 1))), .val (.int y176), .val (.int r177), .val (.int r179), .val (.ref a277), .val (.ref b292), .val (.ref r296)] rfl 180 rfl ?_
    refine own_aload X296 hx (hb hby at_180) rfl rfl 182 rfl ?_
    refine own_arraylength X296 hx hZ (rfl : T296.heap = T296.heap) V296 (hb hby at_182) 183 rfl ?_
    rw [show Int32.ofNat (List.length ((List.range nn).map fun c => Int32.ofNat (own_first [y176, r177, r179, (Int32.ofNat (nn - 1))] c))) = (Int32.ofNat nn) from (by simp)]
    refine own_iload X296 hx (hb hby at_183) rfl 185 rfl ?_
    refine own_icmpY X296 hx (hb hby at_185) (teq rfl).1 190 ⟨by decide, by decide⟩ ?_
    refine own_aload X296 hx (hb hby at_190) rfl rfl 192 rfl ?_
    refine own_aload X296 hx (hb hby at_192) rfl rfl 194 rfl ?_
    refine own_iload X296 hx (hb hby at_194) rfl 196 rfl ?_
    refine own_iconst X296 hx (hb hby at_196) (0 : Int32) rfl 197 rfl ?_
    refine own_callS X296 hx hZ hown (own_w hw 15 rfl) (own_w hw 16 rfl) (own_w hw 8 rfl) (own_w hw 17 rfl) (by decide) (rfl : T296.heap = T296.heap) (rmA4 l Z a0 hw [] r296 a277 nn 0 y176 r177 r179 (Int32.ofNat (nn - 1)) T296.heap n0 hnn (by decide) (hlast 0) V296 V298) (by rw [hml]; rfl) pd_4 (argsL := [(.ref r296), (.ref a277), (.int (4 : Int32)), (.int (0 : Int32))]) rfl (rest := []) rfl (hb hby at_197) 0 (Nat.le_of_eq rfl) (by decide) (by decide) (by decide) (by decide) 200 rfl (fun T301 L301 v301 X301 hQ301 => ?_)
    obtain ⟨rfl, N301, e301⟩ := hQ301
    have N302 := Fr.app N297 N301
    show own_Go p e below G (T301.setTop (mkF m 200 #[.val (.int v0), .val (.int v1), .val (.int v2), .val (.int v3), .val (.int (Int32.ofNat nn)), .val (.int (4 : Int32)), .val (.int (Int32.ofNat (nn - 1))), .val (.int y176), .val (.int r177), .val (.int r179), .val (.ref a277), .val (.ref b292), .val (.ref r296)] [(.int (1 : Int32))]))
    refine own_ifN X301 hx (hb hby at_200) ((if0 _ _).trans (feq (by decide)).1) 203 rfl ?_
    refine own_aload X301 hx (hb hby at_203) rfl rfl 205 rfl ?_
    refine own_aload X301 hx (hb hby at_205) rfl rfl 207 rfl ?_
    refine own_iload X301 hx (hb hby at_207) rfl 209 rfl ?_
    refine own_iconst X301 hx (hb hby at_209) (1 : Int32) rfl 210 rfl ?_
    refine own_callS X301 hx hZ hown (own_w hw 15 rfl) (own_w hw 16 rfl) (own_w hw 8 rfl) (own_w hw 17 rfl) (by decide) e301 (rmA4 l Z a0 hw [] r296 a277 nn 1 y176 r177 r179 (Int32.ofNat (nn - 1)) T296.heap n0 hnn (by decide) (hlast 1) V296 V298) (by rw [hml]; rfl) pd_4 (argsL := [(.ref r296), (.ref a277), (.int (4 : Int32)), (.int (1 : Int32))]) rfl (rest := []) rfl (hb hby at_210) 0 (Nat.le_of_eq rfl) (by decide) (by decide) (by decide) (by decide) 213 rfl (fun T303 L303 v303 X303 hQ303 => ?_)
    obtain ⟨rfl, N303, e303⟩ := hQ303
    have N304 := Fr.app N302 N303
    show own_Go p e below G (T303.setTop (mkF m 213 #[.val (.int v0), .val (.int v1), .val (.int v2), .val (.int v3), .val (.int (Int32.ofNat nn)), .val (.int (4 : Int32)), .val (.int (Int32.ofNat (nn - 1))), .val (.int y176), .val (.int r177), .val (.int r179), .val (.ref a277), .val (.ref b292), .val (.ref r296)] [(.int (1 : Int32))]))
    refine own_ifN X303 hx (hb hby at_213) ((if0 _ _).trans (feq (by decide)).1) 216 rfl ?_
    refine own_aload X303 hx (hb hby at_216) rfl rfl 218 rfl ?_
    refine own_aload X303 hx (hb hby at_218) rfl rfl 220 rfl ?_
    refine own_iload X303 hx (hb hby at_220) rfl 222 rfl ?_
    refine own_iconst X303 hx (hb hby at_222) (2 : Int32) rfl 223 rfl ?_
    refine own_callS X303 hx hZ hown (own_w hw 15 rfl) (own_w hw 16 rfl) (own_w hw 8 rfl) (own_w hw 17 rfl) (by decide) e303 (rmA4 l Z a0 hw [] r296 a277 nn 2 y176 r177 r179 (Int32.ofNat (nn - 1)) T296.heap n0 hnn (by decide) (hlast 2) V296 V298) (by rw [hml]; rfl) pd_4 (argsL := [(.ref r296), (.ref a277), (.int (4 : Int32)), (.int (2 : Int32))]) rfl (rest := []) rfl (hb hby at_223) 0 (Nat.le_of_eq rfl) (by decide) (by decide) (by decide) (by decide) 226 rfl (fun T305 L305 v305 X305 hQ305 => ?_)
    obtain ⟨rfl, N305, e305⟩ := hQ305
    have N306 := Fr.app N304 N305
    show own_Go p e below G (T305.setTop (mkF m 226 #[.val (.int v0), .val (.int v1), .val (.int v2), .val (.int v3), .val (.int (Int32.ofNat nn)), .val (.int (4 : Int32)), .val (.int (Int32.ofNat (nn - 1))), .val (.int y176), .val (.int r177), .val (.int r179), .val (.ref a277), .val (.ref b292), .val (.ref r296)] [(.int (1 : Int32))]))
    refine own_ifN X305 hx (hb hby at_226) ((if0 _ _).trans (feq (by decide)).1) 229 rfl ?_
    refine own_aload X305 hx (hb hby at_229) rfl rfl 231 rfl ?_
    refine own_aload X305 hx (hb hby at_231) rfl rfl 233 rfl ?_
    refine own_iload X305 hx (hb hby at_233) rfl 235 rfl ?_
    refine own_iconst X305 hx (hb hby at_235) (3 : Int32) rfl 236 rfl ?_
    refine own_callS X305 hx hZ hown (own_w hw 15 rfl) (own_w hw 16 rfl) (own_w hw 8 rfl) (own_w hw 17 rfl) (by decide) e305 (rmA4 l Z a0 hw [] r296 a277 nn 3 y176 r177 r179 (Int32.ofNat (nn - 1)) T296.heap n0 hnn (by decide) (hlast 3) V296 V298) (by rw [hml]; rfl) pd_4 (argsL := [(.ref r296), (.ref a277), (.int (4 : Int32)), (.int (3 : Int32))]) rfl (rest := []) rfl (hb hby at_236) 0 (Nat.le_of_eq rfl) (by decide) (by decide) (by decide) (by decide) 239 rfl (fun T307 L307 v307 X307 hQ307 => ?_)
    obtain ⟨rfl, N307, e307⟩ := hQ307
    have N308 := Fr.app N306 N307
    show own_Go p e below G (T307.setTop (mkF m 239 #[.val (.int v0), .val (.int v1), .val (.int v2), .val (.int v3), .val (.int (Int32.ofNat nn)), .val (.int (4 : Int32)), .val (.int (Int32.ofNat (nn - 1))), .val (.int y176), .val (.int r177), .val (.int r179), .val (.ref a277), .val (.ref b292), .val (.ref r296)] [(.int (1 : Int32))]))
    refine own_ifN X307 hx (hb hby at_239) ((if0 _ _).trans (feq (by decide)).1) 242 rfl ?_
    refine own_aload X307 hx (hb hby at_242) rfl rfl 244 rfl ?_
    refine own_aload X307 hx (hb hby at_244) rfl rfl 246 rfl ?_
    refine own_iload X307 hx (hb hby at_246) rfl 248 rfl ?_
    refine own_iconst X307 hx (hb hby at_248) (4 : Int32) rfl 249 rfl ?_
    refine own_callS X307 hx hZ hown (own_w hw 15 rfl) (own_w hw 16 rfl) (own_w hw 8 rfl) (own_w hw 17 rfl) (by decide) e307 (rmA4 l Z a0 hw [] r296 a277 nn 4 y176 r177 r179 (Int32.ofNat (nn - 1)) T296.heap n0 hnn (by decide) (hlast 4) V296 V298) (by rw [hml]; rfl) pd_4 (argsL := [(.ref r296), (.ref a277), (.int (4 : Int32)), (.int (4 : Int32))]) rfl (rest := []) rfl (hb hby at_249) 0 (Nat.le_of_eq rfl) (by decide) (by decide) (by decide) (by decide) 252 rfl (fun T309 L309 v309 X309 hQ309 => ?_)
    obtain ⟨rfl, N309, e309⟩ := hQ309
    have N310 := Fr.app N308 N309
    show own_Go p e below G (T309.setTop (mkF m 252 #[.val (.int v0), .val (.int v1), .val (.int v2), .val (.int v3), .val (.int (Int32.ofNat nn)), .val (.int (4 : Int32)), .val (.int (Int32.ofNat (nn - 1))), .val (.int y176), .val (.int r177), .val (.int r179), .val (.ref a277), .val (.ref b292), .val (.ref r296)] [(.int (1 : Int32))]))
    refine own_ifN X309 hx (hb hby at_252) ((if0 _ _).trans (feq (by decide)).1) 255 rfl ?_
    refine own_aload X309 hx (hb hby at_255) rfl rfl 257 rfl ?_
    refine own_aload X309 hx (hb hby at_257) rfl rfl 259 rfl ?_
    refine own_iload X309 hx (hb hby at_259) rfl 261 rfl ?_
    refine own_iconst X309 hx (hb hby at_261) (5 : Int32) rfl 262 rfl ?_
    refine own_callS X309 hx hZ hown (own_w hw 15 rfl) (own_w hw 16 rfl) (own_w hw 8 rfl) (own_w hw 17 rfl) (by decide) e309 (rmA4 l Z a0 hw [] r296 a277 nn 5 y176 r177 r179 (Int32.ofNat (nn - 1)) T296.heap n0 hnn (by decide) (hlast 5) V296 V298) (by rw [hml]; rfl) pd_4 (argsL := [(.ref r296), (.ref a277), (.int (4 : Int32)), (.int (5 : Int32))]) rfl (rest := []) rfl (hb hby at_262) 0 (Nat.le_of_eq rfl) (by decide) (by decide) (by decide) (by decide) 265 rfl (fun T311 L311 v311 X311 hQ311 => ?_)
    obtain ⟨rfl, N311, e311⟩ := hQ311
    have N312 := Fr.app N310 N311
    show own_Go p e below G (T311.setTop (mkF m 265 #[.val (.int v0), .val (.int v1), .val (.int v2), .val (.int v3), .val (.int (Int32.ofNat nn)), .val (.int (4 : Int32)), .val (.int (Int32.ofNat (nn - 1))), .val (.int y176), .val (.int r177), .val (.int r179), .val (.ref a277), .val (.ref b292), .val (.ref r296)] [(.int (1 : Int32))]))
    refine own_ifN X311 hx (hb hby at_265) ((if0 _ _).trans (feq (by decide)).1) 268 rfl ?_
    refine own_aload X311 hx (hb hby at_268) rfl rfl 270 rfl ?_
    refine own_aload X311 hx (hb hby at_270) rfl rfl 272 rfl ?_
    refine own_iload X311 hx (hb hby at_272) rfl 274 rfl ?_
    refine own_bipush X311 hx (hb hby at_274) (6 : Int32) rfl 276 rfl ?_
    refine own_callS X311 hx hZ hown (own_w hw 15 rfl) (own_w hw 16 rfl) (own_w hw 8 rfl) (own_w hw 17 rfl) (by decide) e311 (rmA4 l Z a0 hw [] r296 a277 nn 6 y176 r177 r179 (Int32.ofNat (nn - 1)) T296.heap n0 hnn (by decide) (hlast 6) V296 V298) (by rw [hml]; rfl) pd_4 (argsL := [(.ref r296), (.ref a277), (.int (4 : Int32)), (.int (6 : Int32))]) rfl (rest := []) rfl (hb hby at_276) 0 (Nat.le_of_eq rfl) (by decide) (by decide) (by decide) (by decide) 279 rfl (fun T313 L313 v313 X313 hQ313 => ?_)
    obtain ⟨rfl, N313, e313⟩ := hQ313
    have N314 := Fr.app N312 N313
    show own_Go p e below G (T313.setTop (mkF m 279 #[.val (.int v0), .val (.int v1), .val (.int v2), .val (.int v3), .val (.int (Int32.ofNat nn)), .val (.int (4 : Int32)), .val (.int (Int32.ofNat (nn - 1))), .val (.int y176), .val (.int r177), .val (.int r179), .val (.ref a277), .val (.ref b292), .val (.ref r296)] [(.int (1 : Int32))]))
    refine own_ifN X313 hx (hb hby at_279) ((if0 _ _).trans (feq (by decide)).1) 282 rfl ?_
    refine own_iconst X313 hx (hb hby at_282) (1 : Int32) rfl 283 rfl ?_
    refine own_goto X313 hx (hb hby at_283) 287 ⟨by decide, by decide⟩ ?_
    refine own_nreturn X313 hx Bd.notSynchronized hG Bd.returns (by simp) (hb hby at_287) (by decide) (by decide) ?_
    rw [e313]
    exact ⟨rfl, N314⟩
set_option maxRecDepth 65536 in
set_option maxHeartbeats 40000000 in
theorem comes_1 {Post : Tables → Env → Array Value → State → Outcome → State → Prop} (hpost : ∀ tb e args s v u, (limb_1_1.after args s (.returned v) u = true ∧ limb_1_2.after args s (.returned v) u = true ∧ True) → FrameEnd s (.returned v) u (Jvm.fieldLocs frame_1_writes args s ++ Jvm.arrayLocs frame_1_arrays args s ++ Jvm.staticLocs frame_1_statics s) 16 128 → Post tb e args s (.returned v) u) :
    ArmFor flags0 classFile x code maxLocals ret World_1 tables_1 room_1 Calls_1 rest_1 Pre_1 Post := by
  intro l hfl _ _ p e ha hc hk s m args below hf hA hF happ hP
  obtain ⟨hcalls, hrest, hpre⟩ := hP
  obtain ⟨-, -, -, hnamed, -, -, -, hat⟩ := (Spec.applies_iff hf).mp happ
  obtain ⟨hg, hn⟩ := and_e (Cond.before_iff.mp (show (Jvm.Cond.and given_1 narrow_1).before args s = true from hpre))
  obtain ⟨hcount, k0⟩ := and_e hg
  obtain ⟨q0, k1⟩ := and_e k0
  obtain ⟨q1, k2⟩ := and_e k1
  obtain ⟨q2, k3⟩ := and_e k2
  have q3 := k3
  obtain ⟨w0, w1, w2, w3, rfl⟩ : ∃ w0 w1 w2 w3 : Value, args = #[w0, w1, w2, w3] := by
    have hs : args.size = 4 := by simpa [Cond.value, given_1] using hcount
    obtain ⟨L⟩ := args
    match L, hs with
    | [w0, w1, w2, w3], _ => exact ⟨w0, w1, w2, w3, rfl⟩
  have hw := fun d (hd : d ∈ tables_1) => atoms_spec (ws := Jvm.Cond.code x code maxLocals ret :: tables_1) hat d (List.mem_cons_of_mem _ hd)
  have hfit : Fit s := fun {y c} hc i hi => by
    obtain ⟨ha, rfl⟩ := Array.getElem?_eq_some_iff.mp hc
    have q := List.all_eq_true.mp ((Array.all_eq_true_iff_forall_mem.mp hF) _ (Array.getElem_mem ha)) i (List.mem_range.mpr hi)
    simpa [Array.getElem?_eq_getElem hi] using q
  obtain ⟨i0, r0⟩ := is_v q0
  obtain rfl : w0 = (.int i0) := Option.some.inj r0
  obtain ⟨i1, r1⟩ := is_v q1
  obtain rfl : w1 = (.int i1) := Option.some.inj r1
  obtain ⟨i2, r2⟩ := is_v q2
  obtain rfl : w2 = (.int i2) := Option.some.inj r2
  obtain ⟨i3, r3⟩ := is_v q3
  obtain rfl : w3 = (.int i3) := Option.some.inj r3
  obtain ⟨n, o, h1, h2, h3, _, L, rfl, ⟨rfl, N⟩, hq⟩ := rm0 l s _ hw tables_1 i0 i1 i2 i3 s.heap s.heap.size (Nat.le_refl _) p e ha hc hk s m _ below hf ((Spec.applies_iff_loose hf).mp happ).1 ⟨rfl, State.Warmed39.refl s, rfl⟩ trivial
  refine ⟨n, _, h1, h2, h3, hpost _ _ _ _ _ _ ⟨Cond.after_iff.mpr rfl, Cond.after_iff.mpr (eq_i res_at (Term.int_eval (1)) rfl), trivial⟩ ⟨hq.1, hq.2.1, (hq.2.2.sift fun y hy => Or.inr (N y hy)).mono (by decide) (by decide)⟩⟩
theorem main_1_1 : Claimed_1_1 := comes_1 fun _ _ _ _ _ _ h hF => ⟨h.1, hF⟩
theorem main_1_2 : Claimed_1_2 := comes_1 fun _ _ _ _ _ _ h hF => ⟨h.2.1, hF⟩
end Jvm.Pilot.@@N@@
namespace Jvm.Pilot.@@N@@
open Jvm Jvm.ClassFile Sem Op Lib Jvm.Free Jvm.Stand Jvm.Pilot.@@N@@.Jvm.D
/-! MADE BY PROGRAM (witnessworld.py) out of the Statement's table words and the real class files: 12 classes; the members and pool entries that the words name. The judged class is class 1, her method 1. -/
namespace start1
open Jvm.ClassFile
def u (s : String) : CpInfo := .utf8 (stringToUtf16 s)
/-- a pool by its gaps: so many unusable entries, then the entry; so many at the end -/
def gap : Nat → List CpInfo → List CpInfo
  | 0, r => r
  | n + 1, r => .unusable :: gap n r
def poolList (es : List (Nat × CpInfo)) (last : Nat) : List CpInfo := es.foldr (fun e r => gap e.1 (e.2 :: r)) (gap last [])
def pool (es : List (Nat × CpInfo)) (last : Nat) : Array CpInfo := ⟨poolList es last⟩
def fileOf (pool : Array CpInfo) (this : Nat) (attrs : Array Attribute := #[]) (ms : Array MethodInfo := #[]) (fl : Nat := 33) (sup : Nat := 0) (ifs : Array Nat := #[]) (fds : Array FieldInfo := #[]) : ClassFile where
  minorVersion := 0
  majorVersion := 65
  constantPool := pool
  accessFlags := fl
  thisClass := this
  superClass := sup
  interfaces := ifs
  fields := fds
  methods := ms
  attributes := attrs
def plain (name : String) (sup : Option ClassId) : Class where
  name := name
  kind := .ordinary
  loader := none
  accessFlags := 33
  super := sup
  interfaces := #[]
  cf := none
  fields := #[]
  methods := #[]
  instanceTypes := #[]
  staticTypes := #[]
  resolved := #[]
  callSites := []
  init := .initialized
  statics := none
  mirror := none

def pool0 : Array CpInfo := pool [(5, u "<init>"), (0, u "()V"), (1, .class_ 10), (1, u "java/lang/Object")] 113

def k0m0 : Method := { name := "<init>", desc := "()V", sig := { parameters := [], returnType := none }, accessFlags := 1, code := none }
/-- java/lang/Object -/
def k0 : Class := { plain "java/lang/Object" none with
  accessFlags := 33
  interfaces := #[]
  cf := some (fileOf pool0 8 #[] #[{ accessFlags := 1, nameIndex := 5, descriptorIndex := 6, attributes := #[] }] 33 0 #[] #[])
  fields := #[]
  methods := #[k0m0]
  instanceTypes := #[]
  staticTypes := #[]
  resolved := Array.replicate 124 none
  statics := none }

def pool1 : Array CpInfo := pool [(2, .class_ 4), (1, u "java/lang/Object"), (0, u "<init>"), (0, u "()V"), (0, .integer 2147483647), (0, .methodref 9 10), (0, .class_ 11), (0, .nameAndType 12 13), (0, u "java/lang/Math"), (0, u "max"), (0, u "(II)I"), (0, .methodref 15 16), (0, .class_ 17), (0, .nameAndType 18 19), (0, u "com/example/equitide/equitide/policy/backfilling/CountBoundsTreeStepOfPinLaw"), (0, u "counts"), (0, u "(I)[J"), (0, .methodref 21 22), (0, .class_ 23), (0, .nameAndType 24 25), (0, u "com/example/equitide/equitide/policy/backfilling/CountBoundsTree"), (0, u "stepOf"), (0, u "([J[I)[I"), (0, .methodref 15 27), (0, .nameAndType 28 29), (0, u "at"), (0, u "([I[III)Z"), (0, .long 2), (1, .long 4), (1, .long 8), (1, .long 16), (1, .long 32), (1, .long 64), (1, .methodref 15 43), (0, .nameAndType 44 45), (0, u "expected"), (0, u "([III)I"), (2, u "law"), (0, u "(IIII)Z")] 7

def k1m0 : Method := { name := "<init>", desc := "()V", sig := { parameters := [], returnType := none }, accessFlags := 1, code := none }
def k1c1 : Code := { maxStack := 4, maxLocals := 13, code := code, exceptionTable := #[], attributes := #[] }
def k1m1 : Method := { name := "law", desc := "(IIII)Z", sig := { parameters := [.int, .int, .int, .int], returnType := some .boolean }, accessFlags := 9, code := some k1c1 }
def k1c2 : Code := { maxStack := 5, maxLocals := 1, code := method_3_code, exceptionTable := #[], attributes := #[] }
def k1m2 : Method := { name := "counts", desc := "(I)[J", sig := { parameters := [.int], returnType := some (.array .long) }, accessFlags := 10, code := some k1c2 }
def k1c3 : Code := { maxStack := 4, maxLocals := 4, code := method_4_code, exceptionTable := #[], attributes := #[] }
def k1m3 : Method := { name := "at", desc := "([I[III)Z", sig := { parameters := [(.array .int), (.array .int), .int, .int], returnType := some .boolean }, accessFlags := 10, code := some k1c3 }
def k1c4 : Code := { maxStack := 2, maxLocals := 3, code := method_5_code, exceptionTable := #[], attributes := #[] }
def k1m4 : Method := { name := "expected", desc := "([III)I", sig := { parameters := [(.array .int), .int, .int], returnType := some .int }, accessFlags := 10, code := some k1c4 }
/-- com/example/equitide/equitide/policy/backfilling/CountBoundsTreeStepOfPinLaw -/
def k1 : Class := { plain "com/example/equitide/equitide/policy/backfilling/CountBoundsTreeStepOfPinLaw" (some 0) with
  accessFlags := 49
  interfaces := #[]
  cf := some (fileOf pool1 15 #[] #[{ accessFlags := 1, nameIndex := 5, descriptorIndex := 6, attributes := #[] }, { accessFlags := 9, nameIndex := 48, descriptorIndex := 49, attributes := #[] }, { accessFlags := 10, nameIndex := 18, descriptorIndex := 19, attributes := #[] }, { accessFlags := 10, nameIndex := 28, descriptorIndex := 29, attributes := #[] }, { accessFlags := 10, nameIndex := 44, descriptorIndex := 45, attributes := #[] }] 49 2 #[] #[])
  fields := #[]
  methods := #[k1m0, k1m1, k1m2, k1m3, k1m4]
  instanceTypes := #[]
  staticTypes := #[]
  resolved := Array.replicate 57 none
  statics := none }

def pool2 : Array CpInfo := pool [(1, .class_ 2), (0, u "java/lang/Math"), (1, .class_ 6), (1, u "java/lang/Object"), (0, u "<init>"), (0, u "()V"), (89, .class_ 100), (1, u "java/lang/Math$RandomNumberGeneratorHolder"), (71, u "negativeZeroFloatBits"), (0, u "J"), (2, u "negativeZeroDoubleBits"), (21, u "max"), (46, u "$assertionsDisabled"), (0, u "Z"), (88, u "(II)I"), (2, u "twoToTheDoubleScaleDown"), (0, u "D"), (4, u "twoToTheDoubleScaleUp"), (9, u "E"), (3, u "PI"), (2, u "TAU"), (2, u "DEGREES_TO_RADIANS"), (0, u "RADIANS_TO_DEGREES")] 94

def k2m0 : Method := { name := "<init>", desc := "()V", sig := { parameters := [], returnType := none }, accessFlags := 2, code := none }
def k2c1 : Code := { maxStack := 2, maxLocals := 2, code := jdk_29_method_65_code, exceptionTable := #[], attributes := #[] }
def k2m1 : Method := { name := "max", desc := "(II)I", sig := { parameters := [.int, .int], returnType := some .int }, accessFlags := 9, code := some k2c1 }
/-- java/lang/Math -/
def k2 : Class := { plain "java/lang/Math" (some 0) with
  accessFlags := 49
  interfaces := #[]
  cf := some (fileOf pool2 1 #[.nestMembers #[98]] #[{ accessFlags := 2, nameIndex := 7, descriptorIndex := 8, attributes := #[] }, { accessFlags := 9, nameIndex := 198, descriptorIndex := 335, attributes := #[] }] 49 4 #[] #[{ accessFlags := 25, nameIndex := 354, descriptorIndex := 339, attributes := #[] }, { accessFlags := 25, nameIndex := 358, descriptorIndex := 339, attributes := #[] }, { accessFlags := 25, nameIndex := 361, descriptorIndex := 339, attributes := #[] }, { accessFlags := 26, nameIndex := 364, descriptorIndex := 339, attributes := #[] }, { accessFlags := 26, nameIndex := 365, descriptorIndex := 339, attributes := #[] }, { accessFlags := 26, nameIndex := 172, descriptorIndex := 173, attributes := #[] }, { accessFlags := 26, nameIndex := 176, descriptorIndex := 173, attributes := #[] }, { accessFlags := 8, nameIndex := 344, descriptorIndex := 339, attributes := #[] }, { accessFlags := 8, nameIndex := 338, descriptorIndex := 339, attributes := #[] }, { accessFlags := 4120, nameIndex := 245, descriptorIndex := 246, attributes := #[] }])
  fields := #[{ name := "E", type := .double, accessFlags := 25, slot := 0, constantValue := 0 }, { name := "PI", type := .double, accessFlags := 25, slot := 1, constantValue := 0 }, { name := "TAU", type := .double, accessFlags := 25, slot := 2, constantValue := 0 }, { name := "DEGREES_TO_RADIANS", type := .double, accessFlags := 26, slot := 3, constantValue := 0 }, { name := "RADIANS_TO_DEGREES", type := .double, accessFlags := 26, slot := 4, constantValue := 0 }, { name := "negativeZeroFloatBits", type := .long, accessFlags := 26, slot := 5, constantValue := 0 }, { name := "negativeZeroDoubleBits", type := .long, accessFlags := 26, slot := 6, constantValue := 0 }, { name := "twoToTheDoubleScaleUp", type := .double, accessFlags := 8, slot := 7, constantValue := 0 }, { name := "twoToTheDoubleScaleDown", type := .double, accessFlags := 8, slot := 8, constantValue := 0 }, { name := "$assertionsDisabled", type := .boolean, accessFlags := 4120, slot := 9, constantValue := 0 }]
  methods := #[k2m0, k2m1]
  instanceTypes := #[]
  staticTypes := #[.double, .double, .double, .double, .double, .long, .long, .double, .double, .boolean]
  resolved := Array.replicate 460 none
  statics := none }

def pool3 : Array CpInfo := pool [(4, .class_ 6), (1, u "java/lang/Object"), (3, .class_ 12), (1, u "com/example/equitide/equitide/policy/backfilling/CountBoundsTree"), (0, u "top"), (0, u "I"), (2, u "head"), (2, u "headKnown"), (0, u "Z"), (6, u "fewest"), (0, u "J"), (2, u "fewestKnown"), (2, u "shortest"), (2, u "shortestKnown"), (4, u "counts"), (0, u "[J"), (3, u "countOf"), (0, u "[I"), (3, u "estimates"), (7, u "steps"), (2, u "width"), (2, u "stepOf"), (0, u "([J[I)[I"), (4, u "leaves"), (2, u "bounds"), (9, u "jobAt"), (85, u "visitsLeft"), (16, u "GAVE_UP"), (2, u "STEPS"), (1, u "LONGEST"), (0, u "SHORTEST"), (0, u "NONE"), (0, u "NO_JOB")] 41

def k3c0 : Code := { maxStack := 3, maxLocals := 5, code := prog_58_method_3_code, exceptionTable := #[], attributes := #[] }
def k3m0 : Method := { name := "stepOf", desc := "([J[I)[I", sig := { parameters := [(.array .long), (.array .int)], returnType := some (.array .int) }, accessFlags := 8, code := some k3c0 }
/-- com/example/equitide/equitide/policy/backfilling/CountBoundsTree -/
def k3 : Class := { plain "com/example/equitide/equitide/policy/backfilling/CountBoundsTree" (some 0) with
  accessFlags := 48
  interfaces := #[]
  cf := some (fileOf pool3 10 #[] #[{ accessFlags := 8, nameIndex := 67, descriptorIndex := 68, attributes := #[] }] 48 4 #[] #[{ accessFlags := 24, nameIndex := 189, descriptorIndex := 14, attributes := #[] }, { accessFlags := 26, nameIndex := 192, descriptorIndex := 14, attributes := #[] }, { accessFlags := 26, nameIndex := 194, descriptorIndex := 14, attributes := #[] }, { accessFlags := 26, nameIndex := 195, descriptorIndex := 14, attributes := #[] }, { accessFlags := 26, nameIndex := 196, descriptorIndex := 14, attributes := #[] }, { accessFlags := 26, nameIndex := 197, descriptorIndex := 14, attributes := #[] }, { accessFlags := 18, nameIndex := 43, descriptorIndex := 44, attributes := #[] }, { accessFlags := 18, nameIndex := 48, descriptorIndex := 49, attributes := #[] }, { accessFlags := 18, nameIndex := 53, descriptorIndex := 44, attributes := #[] }, { accessFlags := 18, nameIndex := 67, descriptorIndex := 49, attributes := #[] }, { accessFlags := 18, nameIndex := 61, descriptorIndex := 14, attributes := #[] }, { accessFlags := 18, nameIndex := 64, descriptorIndex := 14, attributes := #[] }, { accessFlags := 18, nameIndex := 73, descriptorIndex := 14, attributes := #[] }, { accessFlags := 18, nameIndex := 76, descriptorIndex := 49, attributes := #[] }, { accessFlags := 18, nameIndex := 86, descriptorIndex := 49, attributes := #[] }, { accessFlags := 2, nameIndex := 13, descriptorIndex := 14, attributes := #[] }, { accessFlags := 2, nameIndex := 17, descriptorIndex := 14, attributes := #[] }, { accessFlags := 2, nameIndex := 20, descriptorIndex := 21, attributes := #[] }, { accessFlags := 2, nameIndex := 28, descriptorIndex := 29, attributes := #[] }, { accessFlags := 2, nameIndex := 32, descriptorIndex := 21, attributes := #[] }, { accessFlags := 2, nameIndex := 35, descriptorIndex := 29, attributes := #[] }, { accessFlags := 2, nameIndex := 38, descriptorIndex := 21, attributes := #[] }, { accessFlags := 2, nameIndex := 172, descriptorIndex := 14, attributes := #[] }])
  fields := #[{ name := "GAVE_UP", type := .int, accessFlags := 24, slot := 0, constantValue := 0 }, { name := "STEPS", type := .int, accessFlags := 26, slot := 1, constantValue := 0 }, { name := "LONGEST", type := .int, accessFlags := 26, slot := 2, constantValue := 0 }, { name := "SHORTEST", type := .int, accessFlags := 26, slot := 3, constantValue := 0 }, { name := "NONE", type := .int, accessFlags := 26, slot := 4, constantValue := 0 }, { name := "NO_JOB", type := .int, accessFlags := 26, slot := 5, constantValue := 0 }, { name := "counts", type := (.array .long), accessFlags := 18, slot := 0, constantValue := 0 }, { name := "countOf", type := (.array .int), accessFlags := 18, slot := 1, constantValue := 0 }, { name := "estimates", type := (.array .long), accessFlags := 18, slot := 2, constantValue := 0 }, { name := "stepOf", type := (.array .int), accessFlags := 18, slot := 3, constantValue := 0 }, { name := "steps", type := .int, accessFlags := 18, slot := 4, constantValue := 0 }, { name := "width", type := .int, accessFlags := 18, slot := 5, constantValue := 0 }, { name := "leaves", type := .int, accessFlags := 18, slot := 6, constantValue := 0 }, { name := "bounds", type := (.array .int), accessFlags := 18, slot := 7, constantValue := 0 }, { name := "jobAt", type := (.array .int), accessFlags := 18, slot := 8, constantValue := 0 }, { name := "top", type := .int, accessFlags := 2, slot := 9, constantValue := 0 }, { name := "head", type := .int, accessFlags := 2, slot := 10, constantValue := 0 }, { name := "headKnown", type := .boolean, accessFlags := 2, slot := 11, constantValue := 0 }, { name := "fewest", type := .long, accessFlags := 2, slot := 12, constantValue := 0 }, { name := "fewestKnown", type := .boolean, accessFlags := 2, slot := 13, constantValue := 0 }, { name := "shortest", type := .long, accessFlags := 2, slot := 14, constantValue := 0 }, { name := "shortestKnown", type := .boolean, accessFlags := 2, slot := 15, constantValue := 0 }, { name := "visitsLeft", type := .int, accessFlags := 2, slot := 16, constantValue := 0 }]
  methods := #[k3m0]
  instanceTypes := #[(.array .long), (.array .int), (.array .long), (.array .int), .int, .int, .int, (.array .int), (.array .int), .int, .int, .boolean, .long, .boolean, .long, .boolean, .int]
  staticTypes := #[.int, .int, .int, .int, .int, .int]
  resolved := Array.replicate 239 none
  statics := none }

def pool4 : Array CpInfo := pool [(1, u "java/lang/Cloneable"), (0, .class_ 1), (0, u "java/lang/Object"), (0, .class_ 3)] 3

/-- java/lang/Cloneable -/
def k4 : Class := { plain "java/lang/Cloneable" (some 0) with
  accessFlags := 1537
  interfaces := #[]
  cf := some (fileOf pool4 2 #[] #[] 1537 4 #[] #[])
  fields := #[]
  methods := #[]
  instanceTypes := #[]
  staticTypes := #[]
  resolved := Array.replicate 8 none
  statics := none }

def pool5 : Array CpInfo := pool [(1, u "java/io/Serializable"), (0, .class_ 1), (0, u "java/lang/Object"), (0, .class_ 3)] 3

/-- java/io/Serializable -/
def k5 : Class := { plain "java/io/Serializable" (some 0) with
  accessFlags := 1537
  interfaces := #[]
  cf := some (fileOf pool5 2 #[] #[] 1537 4 #[] #[])
  fields := #[]
  methods := #[]
  instanceTypes := #[]
  staticTypes := #[]
  resolved := Array.replicate 8 none
  statics := none }

/-- the primitive byte -/
def k6 : Class := { plain "byte" none with kind := .primitive 'B', accessFlags := 0x411 }
/-- [B -/
def k7 : Class := { plain "[B" (some 0) with kind := .array 6 .byte, interfaces := #[4, 5], accessFlags := 1041 }

/-- the primitive int -/
def k8 : Class := { plain "int" none with kind := .primitive 'I', accessFlags := 0x411 }
/-- [I -/
def k9 : Class := { plain "[I" (some 0) with kind := .array 8 .int, interfaces := #[4, 5], accessFlags := 1041 }

/-- the primitive long -/
def k10 : Class := { plain "long" none with kind := .primitive 'J', accessFlags := 0x411 }
/-- [J -/
def k11 : Class := { plain "[J" (some 0) with kind := .array 10 .long, interfaces := #[4, 5], accessFlags := 1041 }

def heap : Heap := #[]
def classes : Array Class := #[k0, k1, k2, k3, k4, k5, k6, k7, k8, k9, k10, k11]
def interned : List (Array UInt16 × Addr) := []
def slotsUsed : Nat := 0
def theMethod : MethodId := ⟨1, 1⟩
def args0 : Array Value := #[.int 29, .int 3, .int 2, .int 7]
def aboutOver (below : List Frame) : State where
  vm := { classes := classes, interned := interned.toArray }
  heap := heap
  slotsUsed := slotsUsed
  threads := #[{ frames := .invoking theMethod args0 :: below }]
def below0 : List Frame := [.native { method := ⟨0, 0⟩, args := #[] }]
def about1 : State := aboutOver below0
def p0 : Program := .bare "" "" ""
def e0 : Env := launch0.env 0 0 0
theorem w_frames : about1.frames = Frame.invoking theMethod args0 :: below0 := rfl
set_option maxRecDepth 65536 in
theorem w_args : argsFit about1.vm theMethod args0 = true := by decide +kernel
set_option maxRecDepth 65536 in
theorem w_heap : heapFits about1 = true := by decide +kernel
set_option maxRecDepth 65536 in
theorem w_runnable : about1.curStatus? = some .runnable := by decide +kernel
set_option maxRecDepth 65536 in
theorem w_alone : about1.alone = true := by decide +kernel
set_option maxRecDepth 65536 in
theorem w_named : about1.methodNamed? x = some theMethod := by decide +kernel
set_option maxRecDepth 65536 in
theorem w_hears : about1.hears theMethod below0 = true := by decide +kernel
set_option maxRecDepth 65536 in
theorem w_ripe : about1.ripe theMethod args0 below0 = true := by decide +kernel
theorem w_running : about1.status = .running := rfl
set_option maxRecDepth 65536 in
theorem w_room : about1.hasRoom e0.platform room_1 = true :=
  launch0.hasRoom_least _ room_1 (by decide +kernel) (by decide +kernel) (by decide +kernel) (by decide +kernel) (by decide +kernel) (by decide +kernel)
theorem allAtoms_all (ts : List Jvm.Cond) (a : Array Jvm.Value) (st : Jvm.State) : (allAtoms ts).before a st = ts.all (fun c => c.before a st) := by
  induction ts with
  | nil => rfl
  | cons c t ih =>
    show (Jvm.Cond.and c (allAtoms t)).before a st = _
    rw [Jvm.Cond.before_and, ih, List.all_cons]
def words1 : List Jvm.Cond := Jvm.Cond.code x code maxLocals ret :: tables_1
/-- a 'code' word, met by the world's own term for the bytes: nothing is compared byte by byte -/
theorem code_word {y : MethodName} {bytes : ByteArray} {mx : Nat} {rt : Option FieldType} {a : Array Value} {s : State} {m : MethodId} {meth : Method} {c : Code} (h1 : s.methodNamed? y = some m) (h2 : s.vm.method? m = some meth) (h3 : meth.code = some c) (h4 : c.code = bytes)
    (h5 : (c.maxLocals == mx && c.exceptionTable.isEmpty && decide (c.maxStack ≤ mostOperands) && decide (meth.sig.returnType = rt) && !meth.locks && decide (parseMethodDescriptor y.desc = some meth.sig)) = true) : (Jvm.Cond.code y bytes mx rt).before a s = true := by
  simp only [Bool.and_eq_true, beq_iff_eq, Bool.not_eq_true', decide_eq_true_eq] at h5
  obtain ⟨⟨⟨⟨⟨g1, g2⟩, g3⟩, g4⟩, g5⟩, g6⟩ := h5
  simp [Cond.before, Cond.holds, Cond.value, h1, h2, h3, h4, g1, g2, g3, g4, g5, g6]
def isCode : Jvm.Cond → Bool
  | .code _ _ _ _ => true
  | _ => false
theorem all_split {L : List Jvm.Cond} {P : Jvm.Cond → Bool} (h1 : L.all (fun c => isCode c || P c) = true) (h2 : ∀ c ∈ L.filter isCode, P c = true) : L.all P = true := by
  refine List.all_eq_true.mpr fun c hc => ?_
  have h := List.all_eq_true.mp h1 c hc
  rcases Bool.eq_false_or_eq_true (isCode c) with hi | hi
  · exact h2 c (List.mem_filter.mpr ⟨hc, hi⟩)
  · simpa [hi] using h
set_option maxRecDepth 65536 in
theorem w_c0 : (Jvm.Cond.code x code maxLocals ret).before args0 about1 = true := code_word (m := ⟨1, 1⟩) (meth := k1m1) (c := k1c1) (by decide +kernel) rfl rfl rfl (by decide +kernel)
set_option maxRecDepth 65536 in
theorem w_c1 : (Jvm.Cond.code ({ cls := "java/lang/Math", name := "max", desc := "(II)I" } : Jvm.MethodName) jdk_29_method_65_code (2 : Nat) (Option.some Jvm.ClassFile.FieldType.int)).before args0 about1 = true := code_word (m := ⟨2, 1⟩) (meth := k2m1) (c := k2c1) (by decide +kernel) rfl rfl rfl (by decide +kernel)
set_option maxRecDepth 65536 in
theorem w_c2 : (Jvm.Cond.code ({ cls := "com/example/equitide/equitide/policy/backfilling/CountBoundsTreeStepOfPinLaw", name := "counts", desc := "(I)[J" } : Jvm.MethodName) method_3_code (1 : Nat) (Option.some (Jvm.ClassFile.FieldType.array Jvm.ClassFile.FieldType.long))).before args0 about1 = true := code_word (m := ⟨1, 2⟩) (meth := k1m2) (c := k1c2) (by decide +kernel) rfl rfl rfl (by decide +kernel)
set_option maxRecDepth 65536 in
theorem w_c3 : (Jvm.Cond.code ({ cls := "com/example/equitide/equitide/policy/backfilling/CountBoundsTree", name := "stepOf", desc := "([J[I)[I" } : Jvm.MethodName) prog_58_method_3_code (5 : Nat) (Option.some (Jvm.ClassFile.FieldType.array Jvm.ClassFile.FieldType.int))).before args0 about1 = true := code_word (m := ⟨3, 0⟩) (meth := k3m0) (c := k3c0) (by decide +kernel) rfl rfl rfl (by decide +kernel)
set_option maxRecDepth 65536 in
theorem w_c4 : (Jvm.Cond.code ({ cls := "com/example/equitide/equitide/policy/backfilling/CountBoundsTreeStepOfPinLaw", name := "at", desc := "([I[III)Z" } : Jvm.MethodName) method_4_code (4 : Nat) (Option.some Jvm.ClassFile.FieldType.boolean)).before args0 about1 = true := code_word (m := ⟨1, 3⟩) (meth := k1m3) (c := k1c3) (by decide +kernel) rfl rfl rfl (by decide +kernel)
set_option maxRecDepth 65536 in
theorem w_c5 : (Jvm.Cond.code ({ cls := "com/example/equitide/equitide/policy/backfilling/CountBoundsTreeStepOfPinLaw", name := "expected", desc := "([III)I" } : Jvm.MethodName) method_5_code (3 : Nat) (Option.some Jvm.ClassFile.FieldType.int)).before args0 about1 = true := code_word (m := ⟨1, 4⟩) (meth := k1m4) (c := k1c4) (by decide +kernel) rfl rfl rfl (by decide +kernel)
def codes1 : List Jvm.Cond := [Jvm.Cond.code x code maxLocals ret, Jvm.Cond.code ({ cls := "java/lang/Math", name := "max", desc := "(II)I" } : Jvm.MethodName) jdk_29_method_65_code (2 : Nat) (Option.some Jvm.ClassFile.FieldType.int), Jvm.Cond.code ({ cls := "com/example/equitide/equitide/policy/backfilling/CountBoundsTreeStepOfPinLaw", name := "counts", desc := "(I)[J" } : Jvm.MethodName) method_3_code (1 : Nat) (Option.some (Jvm.ClassFile.FieldType.array Jvm.ClassFile.FieldType.long)), Jvm.Cond.code ({ cls := "com/example/equitide/equitide/policy/backfilling/CountBoundsTree", name := "stepOf", desc := "([J[I)[I" } : Jvm.MethodName) prog_58_method_3_code (5 : Nat) (Option.some (Jvm.ClassFile.FieldType.array Jvm.ClassFile.FieldType.int)), Jvm.Cond.code ({ cls := "com/example/equitide/equitide/policy/backfilling/CountBoundsTreeStepOfPinLaw", name := "at", desc := "([I[III)Z" } : Jvm.MethodName) method_4_code (4 : Nat) (Option.some Jvm.ClassFile.FieldType.boolean), Jvm.Cond.code ({ cls := "com/example/equitide/equitide/policy/backfilling/CountBoundsTreeStepOfPinLaw", name := "expected", desc := "([III)I" } : Jvm.MethodName) method_5_code (3 : Nat) (Option.some Jvm.ClassFile.FieldType.int)]
set_option maxRecDepth 65536 in
theorem codes_eq : words1.filter isCode = codes1 := rfl
theorem w_codes : ∀ c ∈ words1.filter isCode, c.before args0 about1 = true := by
  rw [codes_eq]
  intro c hc
  simp only [codes1, List.mem_cons, List.not_mem_nil, or_false] at hc
  rcases hc with rfl | rfl | rfl | rfl | rfl | rfl
  · exact w_c0
  · exact w_c1
  · exact w_c2
  · exact w_c3
  · exact w_c4
  · exact w_c5
set_option maxRecDepth 65536 in
theorem w_t1 : (words1.take 24).all (fun c => isCode c || c.before args0 about1) = true := by decide +kernel
set_option maxRecDepth 65536 in
theorem w_t2 : (words1.drop 24).all (fun c => isCode c || c.before args0 about1) = true := by decide +kernel
theorem w_tables : (allAtoms (Jvm.Cond.code x code maxLocals ret :: tables_1)).before args0 about1 = true := by
  rw [allAtoms_all]
  show words1.all (fun c => c.before args0 about1) = true
  refine all_split ?_ w_codes
  rw [← List.take_append_drop 24 words1, List.all_append, w_t1, w_t2]
  rfl
set_option maxRecDepth 65536 in
theorem w_case : (Jvm.Cond.and given_1 narrow_1).before args0 about1 = true := by decide +kernel
theorem w_applies : (headSpec (Jvm.Cond.code x code maxLocals ret :: tables_1) room_1).applies x e0.platform about1 = true :=
  (Spec.applies_iff w_frames).mpr ⟨w_running, w_runnable, w_alone, w_named, w_hears, w_ripe, w_room, w_tables⟩
theorem atStart : AtStart classFile x code maxLocals ret World_1 tables_1 room_1 Calls_1 rest_1 Pre_1 launch0 p0 e0 about1 theMethod args0 below0 :=
  ⟨lists_1, trivial, launch0.admits_env _ _ _, launch0.least_env, fairChoices_fair.cas, fairChoices_fair.clock, w_frames, w_args, w_heap, w_applies, trivial, trivial, w_case⟩
end start1
theorem witness_1 : WitnessClaimed_1 := ⟨start1.p0, start1.e0, start1.about1, start1.theMethod, start1.args0, start1.below0, start1.atStart⟩
end Jvm.Pilot.@@N@@

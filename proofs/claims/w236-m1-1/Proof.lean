import JvmDerived
import JvmDerived.Pilot.@@N@@Statement
import JvmDerived.Pilot.@@N@@Code
set_option linter.unusedVariables false
set_option linter.unusedSimpArgs false
namespace Jvm.Pilot.@@N@@
open Jvm Jvm.ClassFile Sem Op Lib Jvm.Free Jvm.Stand Jvm.LawKit Jvm.RoadKit Bundle Jvm.Pilot.@@N@@.Jvm.D
def own_Go (p : Program) (e : Env) (below : List Frame) (G : State → Outcome → Prop) (σ : State) : Prop := ∃ U o, Steps p.tables e below σ U ∧ U.status = .running ∧ Ended U below o ∧ G U o
theorem own_go {p : Program} {e : Env} {below : List Frame} {G : State → Outcome → Prop} {σ σ' : State} (h : ∀ t, Steps p.tables e below σ' t → Steps p.tables e below σ t) (k : own_Go p e below G σ') : own_Go p e below G σ := by
  obtain ⟨U, o, h1, h2⟩ := k
  exact ⟨U, o, h _ h1, h2⟩
def own_Post (s : State) (Q : Option Value → Heap → List Loc → Prop) (C S : Nat) (U : State) (o : Outcome) : Prop := ∃ v L, o = .returned v ∧ Q v U.heap L ∧ FrameEnd s o U L C S
section OwnSteps
variable {p : Program} {l : Launch} {e : Env} {R : Room} {s : State} {m : MethodId} {args : Array Value} {below : List Frame} {meth : Method} {c : Code} {T : State} {locs : List Loc} {cells slots : Nat} {G : State → Outcome → Prop} {Ls : Array Slot} {rest : List Value} {pc : Nat}
theorem own_iloadN (X : Stand p l e R s m args below meth c T locs cells slots) (hx : p.tables.exec = Jvm.exec) {i : Fin 4} {v : Int32} (hd : decode c.code pc = .ok (.iload_n i, 1)) (hl : Ls[i.val]? = some (.val (.int v))) (pc' : Nat) (hp : pc + 1 = pc') (k : own_Go p e below G (T.setTop (mkF m pc' Ls (.int v :: rest)))) : own_Go p e below G (T.setTop (mkF m pc Ls (rest))) := by
  subst hp; exact own_go (fun t q => XS.iloadN X.here hx rfl hd hl q) k
theorem own_iload (X : Stand p l e R s m args below meth c T locs cells slots) (hx : p.tables.exec = Jvm.exec) {i : Nat} {v : Int32} (hd : decode c.code pc = .ok (.iload i, 2)) (hl : Ls[i]? = some (.val (.int v))) (pc' : Nat) (hp : pc + 2 = pc') (k : own_Go p e below G (T.setTop (mkF m pc' Ls (.int v :: rest)))) : own_Go p e below G (T.setTop (mkF m pc Ls (rest))) := by
  subst hp; exact own_go (fun t q => XS.iload X.here hx rfl hd hl q) k
theorem own_aloadN (X : Stand p l e R s m args below meth c T locs cells slots) (hx : p.tables.exec = Jvm.exec) {i : Fin 4} {v : Value} (hd : decode c.code pc = .ok (.aload_n i, 1)) (hl : Ls[i.val]? = some (.val v)) (hv : v.isRef = true) (pc' : Nat) (hp : pc + 1 = pc') (k : own_Go p e below G (T.setTop (mkF m pc' Ls (v :: rest)))) : own_Go p e below G (T.setTop (mkF m pc Ls (rest))) := by
  subst hp; exact own_go (fun t q => XS.aloadN X.here hx rfl hd hl hv q) k
theorem own_aload (X : Stand p l e R s m args below meth c T locs cells slots) (hx : p.tables.exec = Jvm.exec) {i : Nat} {v : Value} (hd : decode c.code pc = .ok (.aload i, 2)) (hl : Ls[i]? = some (.val v)) (hv : v.isRef = true) (pc' : Nat) (hp : pc + 2 = pc') (k : own_Go p e below G (T.setTop (mkF m pc' Ls (v :: rest)))) : own_Go p e below G (T.setTop (mkF m pc Ls (rest))) := by
  subst hp; exact own_go (fun t q => XS.aload X.here hx rfl hd hl hv q) k
theorem own_istore (X : Stand p l e R s m args below meth c T locs cells slots) (hx : p.tables.exec = Jvm.exec) {i : Nat} {v : Int32} (hd : decode c.code pc = .ok (.istore i, 2)) (l' : Array Slot) (hl : storeLocals Ls i (.int v) = some l') (pc' : Nat) (hp : pc + 2 = pc') (k : own_Go p e below G (T.setTop (mkF m pc' l' (rest)))) : own_Go p e below G (T.setTop (mkF m pc Ls (.int v :: rest))) := by
  subst hp; exact own_go (fun t q => XS.istore X.here hx rfl hd rfl hl q) k
theorem own_astore (X : Stand p l e R s m args below meth c T locs cells slots) (hx : p.tables.exec = Jvm.exec) {i : Nat} {v : Value} (hd : decode c.code pc = .ok (.astore i, 2)) (hv : v.isRef = true) (l' : Array Slot) (hl : storeLocals Ls i v = some l') (pc' : Nat) (hp : pc + 2 = pc') (k : own_Go p e below G (T.setTop (mkF m pc' l' (rest)))) : own_Go p e below G (T.setTop (mkF m pc Ls (v :: rest))) := by
  subst hp; exact own_go (fun t q => XS.astore X.here hx rfl hd rfl hv hl q) k
theorem own_iinc (X : Stand p l e R s m args below meth c T locs cells slots) (hx : p.tables.exec = Jvm.exec) {i : Nat} {z : Int} {v : Int32} (hd : decode c.code pc = .ok (.iinc i z, 3)) (hl : Ls[i]? = some (.val (.int v))) (l' : Array Slot) (hl' : storeLocals Ls i (.int (v + Int32.ofInt z)) = some l') (pc' : Nat) (hp : pc + 3 = pc') (k : own_Go p e below G (T.setTop (mkF m pc' l' (rest)))) : own_Go p e below G (T.setTop (mkF m pc Ls (rest))) := by
  subst hp; exact own_go (fun t q => XS.iinc X.here hx rfl hd hl hl' q) k
theorem own_iconst (X : Stand p l e R s m args below meth c T locs cells slots) (hx : p.tables.exec = Jvm.exec) {i : Int} (hd : decode c.code pc = .ok (.iconst i, 1)) (v : Int32) (hv : v = Int32.ofInt i) (pc' : Nat) (hp : pc + 1 = pc') (k : own_Go p e below G (T.setTop (mkF m pc' Ls (.int v :: rest)))) : own_Go p e below G (T.setTop (mkF m pc Ls (rest))) := by
  subst hp; exact own_go (fun t q => XS.iconst X.here hx rfl hd (hv ▸ q)) k
theorem own_bipush (X : Stand p l e R s m args below meth c T locs cells slots) (hx : p.tables.exec = Jvm.exec) {i : Int} (hd : decode c.code pc = .ok (.bipush i, 2)) (v : Int32) (hv : v = (Int8.ofInt i).toInt32) (pc' : Nat) (hp : pc + 2 = pc') (k : own_Go p e below G (T.setTop (mkF m pc' Ls (.int v :: rest)))) : own_Go p e below G (T.setTop (mkF m pc Ls (rest))) := by
  subst hp; exact own_go (fun t q => XS.bipush X.here hx rfl hd (hv ▸ q)) k
theorem own_ldcInt (X : Stand p l e R s m args below meth c T locs cells slots) (hx : p.tables.exec = Jvm.exec) {own : String} {index : Nat} {v : Int32} (hown : s.vm.findClass own = some m.cls) (hc : (Cond.constant own index v).before args s = true) (hd : decode c.code pc = .ok (.ldc index, 2)) (pc' : Nat) (hp : pc + 2 = pc') (k : own_Go p e below G (T.setTop (mkF m pc' Ls (.int v :: rest)))) : own_Go p e below G (T.setTop (mkF m pc Ls rest)) := by
  subst hp; exact own_go (X.ldcInt hx hown hc (g := mkF m pc Ls rest) rfl hd) k
theorem own_iadd (X : Stand p l e R s m args below meth c T locs cells slots) (hx : p.tables.exec = Jvm.exec) {x y : Int32} (hd : decode c.code pc = .ok (.iadd, 1)) (pc' : Nat) (hp : pc + 1 = pc') (k : own_Go p e below G (T.setTop (mkF m pc' Ls (.int (x + y) :: rest)))) : own_Go p e below G (T.setTop (mkF m pc Ls (.int y :: .int x :: rest))) := by
  subst hp; exact own_go (fun t q => XS.iadd X.here hx rfl hd rfl q) k
theorem own_isub (X : Stand p l e R s m args below meth c T locs cells slots) (hx : p.tables.exec = Jvm.exec) {x y : Int32} (hd : decode c.code pc = .ok (.isub, 1)) (pc' : Nat) (hp : pc + 1 = pc') (k : own_Go p e below G (T.setTop (mkF m pc' Ls (.int (x - y) :: rest)))) : own_Go p e below G (T.setTop (mkF m pc Ls (.int y :: .int x :: rest))) := by
  subst hp; exact own_go (fun t q => XS.isub X.here hx rfl hd rfl q) k
theorem own_iand (X : Stand p l e R s m args below meth c T locs cells slots) (hx : p.tables.exec = Jvm.exec) {x y : Int32} (hd : decode c.code pc = .ok (.iand, 1)) (pc' : Nat) (hp : pc + 1 = pc') (k : own_Go p e below G (T.setTop (mkF m pc' Ls (.int (x &&& y) :: rest)))) : own_Go p e below G (T.setTop (mkF m pc Ls (.int y :: .int x :: rest))) := by
  subst hp; exact own_go (fun t q => XS.iand X.here hx rfl hd rfl q) k
theorem own_irem (X : Stand p l e R s m args below meth c T locs cells slots) (hx : p.tables.exec = Jvm.exec) {x y : Int32} (hd : decode c.code pc = .ok (.irem, 1)) (hy : y ≠ 0) (pc' : Nat) (hp : pc + 1 = pc') (k : own_Go p e below G (T.setTop (mkF m pc' Ls (.int (x % y) :: rest)))) : own_Go p e below G (T.setTop (mkF m pc Ls (.int y :: .int x :: rest))) := by
  subst hp; exact own_go (fun t q => iremM X hx rfl hd rfl hy q) k
theorem own_iushr (X : Stand p l e R s m args below meth c T locs cells slots) (hx : p.tables.exec = Jvm.exec) {x y : Int32} (hd : decode c.code pc = .ok (.iushr, 1)) (pc' : Nat) (hp : pc + 1 = pc') (k : own_Go p e below G (T.setTop (mkF m pc' Ls (.int ((x.toUInt32 >>> (y &&& 31).toUInt32).toInt32) :: rest)))) : own_Go p e below G (T.setTop (mkF m pc Ls (.int y :: .int x :: rest))) := by
  subst hp; exact own_go (fun t q => XS.iushr X.here hx rfl hd rfl q) k
theorem own_i2b (X : Stand p l e R s m args below meth c T locs cells slots) (hx : p.tables.exec = Jvm.exec) {x : Int32} (hd : decode c.code pc = .ok (.i2b, 1)) (pc' : Nat) (hp : pc + 1 = pc') (k : own_Go p e below G (T.setTop (mkF m pc' Ls (.int x.toInt8.toInt32 :: rest)))) : own_Go p e below G (T.setTop (mkF m pc Ls (.int x :: rest))) := by
  subst hp; exact own_go (fun t q => XS.i2b X.here hx rfl hd rfl q) k
theorem own_goto (X : Stand p l e R s m args below meth c T locs cells slots) (hx : p.tables.exec = Jvm.exec) {o : Int} (hd : decode c.code pc = .ok (.goto o, 3)) (pc' : Nat) (hp : 0 ≤ (pc : Int) + o ∧ ((pc : Int) + o).toNat = pc') (k : own_Go p e below G (T.setTop (mkF m pc' Ls rest))) : own_Go p e below G (T.setTop (mkF m pc Ls rest)) :=
  own_go (fun t q => XS.goto X.here hx rfl (pc0 := pc) (pc' := pc') rfl hd hp.1 hp.2 q) k
theorem own_ifY (X : Stand p l e R s m args below meth c T locs cells slots) (hx : p.tables.exec = Jvm.exec) {o : Int} {cd : ClassFile.Cond} {x : Int32} (hd : decode c.code pc = .ok (.ifCond cd o, 3)) (hc : ifCond.holds cd x = true) (pc' : Nat) (hp : 0 ≤ (pc : Int) + o ∧ ((pc : Int) + o).toNat = pc') (k : own_Go p e below G (T.setTop (mkF m pc' Ls rest))) : own_Go p e below G (T.setTop (mkF m pc Ls (.int x :: rest))) :=
  own_go (fun t q => XS.ifYes X.here hx rfl (pc0 := pc) (pc' := pc') rfl hd rfl hc hp.1 hp.2 q) k
theorem own_ifN (X : Stand p l e R s m args below meth c T locs cells slots) (hx : p.tables.exec = Jvm.exec) {o : Int} {cd : ClassFile.Cond} {x : Int32} (hd : decode c.code pc = .ok (.ifCond cd o, 3)) (hc : ifCond.holds cd x = false) (pc' : Nat) (hp : pc + 3 = pc') (k : own_Go p e below G (T.setTop (mkF m pc' Ls (rest)))) : own_Go p e below G (T.setTop (mkF m pc Ls (.int x :: rest))) := by
  subst hp; exact own_go (fun t q => XS.ifNo X.here hx rfl hd rfl hc q) k
theorem own_icmpY (X : Stand p l e R s m args below meth c T locs cells slots) (hx : p.tables.exec = Jvm.exec) {o : Int} {cd : ClassFile.Cond} {x y : Int32} (hd : decode c.code pc = .ok (.if_icmp cd o, 3)) (hc : if_icmp.holds cd x y = true) (pc' : Nat) (hp : 0 ≤ (pc : Int) + o ∧ ((pc : Int) + o).toNat = pc') (k : own_Go p e below G (T.setTop (mkF m pc' Ls rest))) : own_Go p e below G (T.setTop (mkF m pc Ls (.int y :: .int x :: rest))) :=
  own_go (fun t q => XS.icmpYes X.here hx rfl (pc0 := pc) (pc' := pc') rfl hd rfl hc hp.1 hp.2 q) k
theorem own_icmpN (X : Stand p l e R s m args below meth c T locs cells slots) (hx : p.tables.exec = Jvm.exec) {o : Int} {cd : ClassFile.Cond} {x y : Int32} (hd : decode c.code pc = .ok (.if_icmp cd o, 3)) (hc : if_icmp.holds cd x y = false) (pc' : Nat) (hp : pc + 3 = pc') (k : own_Go p e below G (T.setTop (mkF m pc' Ls (rest)))) : own_Go p e below G (T.setTop (mkF m pc Ls (.int y :: .int x :: rest))) := by
  subst hp; exact own_go (fun t q => XS.icmpNo X.here hx rfl hd rfl hc q) k
theorem own_ret {f : JFrame} {Q : Option Value → Heap → List Loc → Prop} {C S : Nat} (X : Stand p l e R s m args below meth c T locs cells slots) (hlk : meth.locks = false) (hG : own_Post s Q C S = G) {v : Option Value} (hv : meth.sig.returnType = none → v = none)
    (st : ∀ fs, (∀ (f : JFrame) (acts : List Action), f.method = m → f.locked = none → f.entered = [] → (doReturn e (T.setTop f) acts v).1 = T.setFrames fs) → Steps p.tables e below (T.setTop f) (T.setFrames fs)) (hc : cells ≤ C) (hs : slots ≤ S) (hq : Q v T.heap locs) : own_Go p e below G (T.setTop f) := by
  subst hG
  obtain ⟨fs, hr, hrun, hended, hW, hsame⟩ := X.leave (v := v) hv hlk
  exact ⟨_, _, st fs hr, hrun, hended, _, _, rfl, hq, ⟨_, rfl⟩, hW, hsame.mono hc hs⟩
theorem own_nreturn {z : Int32} {ty : FieldType} {Q : Option Value → Heap → List Loc → Prop} {C S : Nat} (X : Stand p l e R s m args below meth c T locs cells slots) (hx : p.tables.exec = Jvm.exec) (hlk : meth.locks = false) (hG : own_Post s Q C S = G) (hret : meth.sig.returnType = some ty) (ht : ty = .boolean ∨ ty = .byte ∨ ty = .char ∨ ty = .short) (hd : decode c.code pc = .ok (.ireturn, 1)) (hc : cells ≤ C) (hs : slots ≤ S) (hq : Q (some (.int (nar ty z))) T.heap locs) : own_Go p e below G (T.setTop (mkF m pc Ls (.int z :: rest))) :=
  own_ret X hlk hG (fun h => by rw [hret] at h; cases h) (fun fs hr => retN X hx hret ht hd hr) hc hs hq
variable {Z : State} {a0 : Array Value} {h : Heap}
theorem own_callS {bytes : ByteArray} {maxL : Nat} {ret : Option FieldType} {rm : Room} {y : MethodName} {argsL : List Value} {Q : Option Value → Heap → List Loc → Prop} (X : Stand p l e R s m args below meth c T locs cells slots) (hx : p.tables.exec = Jvm.exec) (hZ : Z.Warmed39 s.vm) {own : String} {index : Nat} (hown : s.vm.findClass own = some m.cls) (w1 : (Cond.methodLink own index y).before a0 Z = true) (w2 : (Cond.static y).before a0 Z = true) (w3 : (Cond.initialized y.cls).before a0 Z = true) (w4 : (Cond.code y bytes maxL ret).before a0 Z = true) (hy : y.cls ≠ "java/lang/invoke/MethodHandle" ∧ y.cls ≠ "java/lang/invoke/VarHandle") (eT : T.heap = h)
    (hM : MetFree l y (head1 [Cond.code y bytes maxL ret] rm) (fun a U => a = argsL.toArray ∧ Z.Warmed39 U.vm ∧ U.heap = h) (fun _ _ _ _ _ => True) (fun _ U o U' => ∃ v L, o = .returned v ∧ Q v U'.heap L ∧ FrameEnd U o U' L rm.cells rm.slots))
    (hsize : Ls.size = c.maxLocals) {ps : List FieldType} {rt : Option FieldType} (hdesc : parseMethodDescriptor y.desc = some ⟨ps, rt⟩) (hlen : argsL.length = ps.length) {st : List Value} (hst : st = argsL.reverse ++ rest) (hd : decode c.code pc = .ok (.invokestatic index, 3)) (W : Nat) (hW : (rest.map fun v => v.category).sum ≤ W) (hf : rm.frames + 1 ≤ R.frames) (hl : W + (maxL + 11) + rm.locals ≤ R.locals) (hc : cells + rm.cells ≤ R.cells) (hs : slots + rm.slots ≤ R.slots) (pc' : Nat) (hp : pc + 3 = pc')
    (k : ∀ (T' : State) (L : List Loc) (v : Option Value), Stand p l e R s m args below meth c T' (locs ++ L) (cells + rm.cells) (slots + rm.slots) → Q v T'.heap L → own_Go p e below G (T'.setTop (mkF m pc' Ls (v.toList ++ rest)))) : own_Go p e below G (T.setTop (mkF m pc Ls st)) := by
  subst hp hst
  obtain ⟨v, _, ⟨T', L', k', n'⟩, -, X', ⟨Lc, hQ, l', y', z'⟩, st⟩ := Jvm.LawKit.callS X hx hown (mvT hZ w1) (mvT hZ w2) (mvT hZ w3) (mvT hZ w4) hy (backOf (W := W) hM hZ w4 w3 hf hl) (g := mkF m pc Ls (argsL.reverse ++ rest)) rfl hsize (argsL := argsL) (rest := rest) (lenOf hdesc hlen) rfl (by show 2 * 0 + _ ≤ W; rw [Nat.mul_zero, Nat.zero_add]; exact hW) hd (fun _ _ => ⟨rfl, eT, hc, hs⟩)
  dsimp only [Pt.U, Pt.locs, Pt.cells, Pt.slots] at X' l' y' z' st hQ
  subst l' y' z'
  exact own_go st (k T' Lc v X' hQ)
def own_A {α : Type} (ty : FieldType) (f : α → Value) (Z : State) (h : Heap) (a : Addr) (L : List α) : Prop := ∃ cl : Cell, Arr Z h a cl ty ∧ cl.slots = (L.map f).toArray ∧ L.length < 2147483648
section OwnArr
variable {α : Type} {ty : FieldType} {f : α → Value} {h' : Heap} {a b : Addr} {L : List α}
theorem own_A.lt (F : own_A ty f Z h a L) : a < h.size := by obtain ⟨cl, A, -⟩ := F; exact A.lt
theorem own_A.ext (F : own_A ty f Z h a L) (E : Ext h h') : own_A ty f Z h' a L := by obtain ⟨cl, A, r⟩ := F; exact ⟨cl, A.ext E, r⟩
theorem own_A.other {sl : Nat} {v : Value} (F : own_A ty f Z h b L) (W : Wr h h' a sl v) (q : b ≠ a) : own_A ty f Z h' b L := by obtain ⟨cl, A, r⟩ := F; exact ⟨cl, A.other W q, r⟩
theorem own_A.keep {ws : List Addr} (F : own_A ty f Z h a L) (K : Keep h h' ws) (q : a ∉ ws) : own_A ty f Z h' a L := by obtain ⟨cl, A, r⟩ := F; exact ⟨cl, ⟨K.2.1 a cl A.1 q, A.2⟩, r⟩
theorem own_A.len (F : own_A ty f Z h a L) : L.length < 2147483648 := by obtain ⟨cl, A, -, r⟩ := F; exact r
theorem own_A.set {i : Nat} {x : α} (F : own_A ty f Z h a L) (W : Wr h h' a i (f x)) : own_A ty f Z h' a (L.set i x) := by
  obtain ⟨cl, A, r, r'⟩ := F
  refine ⟨_, A.same W, ?_, by simpa using r'⟩
  show cl.slots.setIfInBounds i (f x) = _
  rw [r, List.map_set]; simp
theorem own_idx {j : Int32} {i n : Nat} (hj : j = Int32.ofNat i) (hi : i < n) (hn : n < 2147483648) : ¬ (j < 0 ∨ n ≤ j.toNatClampNeg) ∧ j.toNatClampNeg = i := by
  subst hj
  have q : (Int32.ofNat i).toInt = i := Int32.toInt_ofNat_of_lt (by omega)
  have q2 : (Int32.ofNat i).toNatClampNeg = i := by rw [Int32.toNatClampNeg, q]; rfl
  refine ⟨fun z => z.elim (fun z => ?_) fun z => by omega, q2⟩
  rw [Int32.lt_iff_toInt_lt, q, show (0 : Int32).toInt = 0 from rfl] at z; omega
theorem own_A.new {k : ClassId} {n : Int32} {d : α} (hd : f d = defaultValue ty) (A : Arr Z h a (newA k ty n) ty) (i : Nat) (hn : n = Int32.ofNat i) (hi : i < 2147483648) : own_A ty f Z h a (List.replicate i d) := by
  refine ⟨_, A, ?_, by simpa using hi⟩
  have q := (own_idx hn (Nat.lt_succ_self i) (n := i + 1))
  have q2 : n.toNatClampNeg = i := by
    subst hn
    rw [Int32.toNatClampNeg, Int32.toInt_ofNat_of_lt (by omega)]; rfl
  simp [newA, q2, hd]
end OwnArr
theorem own_baload (X : Stand p l e R s m args below meth c T locs cells slots) (hx : p.tables.exec = Jvm.exec) (hZ : Z.Warmed39 s.vm) (eT : T.heap = h) {a : Addr} {L : List Int32} (V : own_A .byte Value.int Z h a L) {j : Int32} (i : Nat) (hj : j = Int32.ofNat i) (v : Int32) (hv : L[i]? = some v) (hd : decode c.code pc = .ok (.baload, 1)) (pc' : Nat) (hp : pc + 1 = pc') (k : own_Go p e below G (T.setTop (mkF m pc' Ls (Value.int v :: rest)))) : own_Go p e below G (T.setTop (mkF m pc Ls (.int j :: .ref a :: rest))) := by
  subst hp
  obtain ⟨cl, A, r, r'⟩ := V
  have hi : i < L.length := (List.getElem?_eq_some_iff.mp hv).1
  obtain ⟨q1, q2⟩ := own_idx hj hi r'
  exact own_go (X.baloadBytes hx (j := j) (v := Value.int v) (by rw [eT]; exact A.1) (State.isArrayOf_alike hZ.alike A.2.1) A.2.2 (by rw [r]; simpa using q1) (by rw [r, q2]; simp [hv]) (g := mkF m pc Ls (.int j :: .ref a :: rest)) rfl rfl hd) k
theorem own_bastore (X : Stand p l e R s m args below meth c T locs cells slots) (hx : p.tables.exec = Jvm.exec) (hZ : Z.Warmed39 s.vm) (eT : T.heap = h) {a : Addr} {L : List Int32} (V : own_A .byte Value.int Z h a L) {j : Int32} {x : Int32} (i : Nat) (hj : j = Int32.ofNat i) (hi : i < L.length) (hd : decode c.code pc = .ok (.bastore, 1)) (pc' : Nat) (hp : pc + 1 = pc')
    (k : ∀ (T' : State) (h' : Heap), Stand p l e R s m args below meth c T' (locs ++ [⟨a, j.toNatClampNeg⟩]) cells slots → T'.heap = h' → Wr h h' a i (Value.int (x.toInt8.toInt32)) → own_A .byte Value.int Z h' a (L.set i (x.toInt8.toInt32)) → own_Go p e below G (T'.setTop (mkF m pc' Ls rest))) : own_Go p e below G (T.setTop (mkF m pc Ls (Value.int x :: .int j :: .ref a :: rest))) := by
  subst hp
  have V' := V
  obtain ⟨cl, A, r, r'⟩ := V'
  obtain ⟨q1, q2⟩ := own_idx hj hi r'
  obtain ⟨T', h', X', e', W, st⟩ := stB X hx hZ eT A (j := j) (x := x) (by rw [r]; simpa using q1) (g := mkF m pc Ls (Value.int x :: .int j :: .ref a :: rest)) rfl rfl hd
  rw [q2] at W
  exact own_go st (k T' h' X' e' W (V.set W))
theorem own_newB (X : Stand p l e R s m args below meth c T locs cells slots) (hx : p.tables.exec = Jvm.exec) (hZ : Z.Warmed39 s.vm) (w : (Cond.arrayClass .byte).before a0 Z = true) (eT : T.heap = h) {n : Int32} (hd : decode c.code pc = .ok (.newarray .byte, 2)) (i : Nat) (hn : n = Int32.ofNat i) (cap : Nat) (hcap : i ≤ cap) (hb : cap * 8 ≤ 536870912) (hc : cells + 1 ≤ R.cells) (hl : slots + cap ≤ R.slots) (pc' : Nat) (hp : pc + 2 = pc')
    (k : ∀ (T' : State) (h' : Heap) (a' : Addr), a' = h.size → Stand p l e R s m args below meth c T' locs (cells + 1) (slots + cap) → T'.heap = h' → Ext h h' → own_A .byte Value.int Z h' a' (List.replicate i (0 : Int32)) → own_Go p e below G (T'.setTop (mkF m pc' Ls (.ref a' :: rest)))) : own_Go p e below G (T.setTop (mkF m pc Ls (.int n :: rest))) := by
  subst hp
  have hi : i < 2147483648 := by omega
  obtain ⟨q1, q2⟩ := own_idx hn (Nat.lt_succ_self i) (n := i + 1) (by omega)
  obtain ⟨T', h', cA, X', e', E', A', st⟩ := newP X hx hZ (aty := .byte) w eT (g := mkF m pc Ls (.int n :: rest)) rfl hd (n := n) (rest := rest) rfl (fun z => q1 (Or.inl z)) (cap := cap) (by rw [q2]; exact hcap) hb hc hl
  exact own_go st (k T' h' _ rfl X' e' E' (own_A.new (f := Value.int) (d := 0) rfl A' i hn hi))
end OwnSteps
theorem own_w {Z : State} {a0 : Array Value} (hw : ∀ d ∈ tables_1, d.before a0 Z = true) (i : Nat) {d : Cond} (h : tables_1[i]? = some d) : d.before a0 Z = true := hw d (List.mem_of_getElem? h)
theorem own_isl {args : Array Value} {first s : State} {o : Option Outcome} {idx : List Nat} {t : Term} (h : (Cond.isLong t).value args first o s idx = some true) : ∃ x, t.eval args first o idx s = some (.long x) := isL_v h
theorem d1_0 : decode prog_13_method_2_code 0 = .ok (.iload_n 2, 1) := by decide +kernel
theorem d1_1 : decode prog_13_method_2_code 1 = .ok (.iload_n 1, 1) := by decide +kernel
theorem d1_2 : decode prog_13_method_2_code 2 = .ok (.if_icmp .eq 10, 3) := by decide +kernel
theorem d1_5 : decode prog_13_method_2_code 5 = .ok (.iload_n 2, 1) := by decide +kernel
theorem d1_6 : decode prog_13_method_2_code 6 = .ok (.iload_n 1, 1) := by decide +kernel
theorem d1_7 : decode prog_13_method_2_code 7 = .ok (.isub, 1) := by decide +kernel
theorem d1_8 : decode prog_13_method_2_code 8 = .ok (.iload_n 3, 1) := by decide +kernel
theorem d1_9 : decode prog_13_method_2_code 9 = .ok (.if_icmp .le 5, 3) := by decide +kernel
theorem d1_12 : decode prog_13_method_2_code 12 = .ok (.iconst 0, 1) := by decide +kernel
theorem d1_13 : decode prog_13_method_2_code 13 = .ok (.ireturn, 1) := by decide +kernel
theorem d1_14 : decode prog_13_method_2_code 14 = .ok (.iload_n 1, 1) := by decide +kernel
theorem d1_15 : decode prog_13_method_2_code 15 = .ok (.istore 4, 2) := by decide +kernel
theorem d1_17 : decode prog_13_method_2_code 17 = .ok (.iload 4, 2) := by decide +kernel
theorem d1_19 : decode prog_13_method_2_code 19 = .ok (.iload_n 2, 1) := by decide +kernel
theorem d1_20 : decode prog_13_method_2_code 20 = .ok (.if_icmp .ge 29, 3) := by decide +kernel
theorem d1_23 : decode prog_13_method_2_code 23 = .ok (.aload_n 0, 1) := by decide +kernel
theorem d1_24 : decode prog_13_method_2_code 24 = .ok (.iload 4, 2) := by decide +kernel
theorem d1_26 : decode prog_13_method_2_code 26 = .ok (.baload, 1) := by decide +kernel
theorem d1_27 : decode prog_13_method_2_code 27 = .ok (.bipush 48, 2) := by decide +kernel
theorem d1_29 : decode prog_13_method_2_code 29 = .ok (.if_icmp .lt 12, 3) := by decide +kernel
theorem d1_32 : decode prog_13_method_2_code 32 = .ok (.aload_n 0, 1) := by decide +kernel
theorem d1_33 : decode prog_13_method_2_code 33 = .ok (.iload 4, 2) := by decide +kernel
theorem d1_35 : decode prog_13_method_2_code 35 = .ok (.baload, 1) := by decide +kernel
theorem d1_36 : decode prog_13_method_2_code 36 = .ok (.bipush 57, 2) := by decide +kernel
theorem d1_38 : decode prog_13_method_2_code 38 = .ok (.if_icmp .le 5, 3) := by decide +kernel
theorem d1_41 : decode prog_13_method_2_code 41 = .ok (.iconst 0, 1) := by decide +kernel
theorem d1_42 : decode prog_13_method_2_code 42 = .ok (.ireturn, 1) := by decide +kernel
theorem d1_43 : decode prog_13_method_2_code 43 = .ok (.iinc 4 1, 3) := by decide +kernel
theorem d1_46 : decode prog_13_method_2_code 46 = .ok (.goto (-29), 3) := by decide +kernel
theorem d1_49 : decode prog_13_method_2_code 49 = .ok (.iconst 1, 1) := by decide +kernel
theorem d1_50 : decode prog_13_method_2_code 50 = .ok (.ireturn, 1) := by decide +kernel
theorem d2_0 : decode method_2_code 0 = .ok (.iload_n 0, 1) := by decide +kernel
theorem d2_1 : decode method_2_code 1 = .ok (.bipush 48, 2) := by decide +kernel
theorem d2_3 : decode method_2_code 3 = .ok (.if_icmp .lt 13, 3) := by decide +kernel
theorem d2_6 : decode method_2_code 6 = .ok (.iload_n 0, 1) := by decide +kernel
theorem d2_7 : decode method_2_code 7 = .ok (.bipush 57, 2) := by decide +kernel
theorem d2_9 : decode method_2_code 9 = .ok (.if_icmp .gt 7, 3) := by decide +kernel
theorem d2_12 : decode method_2_code 12 = .ok (.iconst 1, 1) := by decide +kernel
theorem d2_13 : decode method_2_code 13 = .ok (.goto 4, 3) := by decide +kernel
theorem d2_16 : decode method_2_code 16 = .ok (.iconst 0, 1) := by decide +kernel
theorem d2_17 : decode method_2_code 17 = .ok (.ireturn, 1) := by decide +kernel
abbrev own_y2 : MethodName := ⟨"com/example/mapweft/mapweft/release/DecimalDigitsIsDigitsPinLaw", "digit", "(B)Z"⟩
abbrev own_y1 : MethodName := ⟨"com/example/mapweft/mapweft/release/DecimalDigits", "isDigits", "([BIII)Z"⟩
theorem pf_2 : plainFor own_y2 = true := by decide +kernel
theorem pf_1 : plainFor own_y1 = true := by decide +kernel
theorem pn_0 : plainName "com/example/mapweft/mapweft/release/DecimalDigitsIsDigitsPinLaw" = true := by first | (simp [plainName, overriddenIn]; done) | decide +kernel
theorem pd_0 : parseMethodDescriptor "([BIII)Z" = some ⟨[(.array .byte), .int, .int, .int], some .boolean⟩ := by decide +kernel
theorem pd_1 : parseMethodDescriptor "(B)Z" = some ⟨[.byte], some .boolean⟩ := by decide +kernel
theorem own_and32 (x m : Int32) (k : Nat) (hm : m.toBitVec.toNat = 2 ^ k - 1) (hk : k < 32) : (x &&& m).toInt = ((x.toBitVec.toNat % 2 ^ k : Nat) : Int) := by
  have h : (x &&& m).toBitVec.toNat = x.toBitVec.toNat % 2 ^ k := by
    rw [Int32.toBitVec_and, BitVec.toNat_and, hm, Nat.and_two_pow_sub_one_eq_mod]
  have h2 : x.toBitVec.toNat % 2 ^ k < 2 ^ k := Nat.mod_lt _ (Nat.two_pow_pos k)
  have h3 : 2 ^ k ≤ 2 ^ 31 := Nat.pow_le_pow_right (by decide) (by omega)
  rw [← Int32.toInt_toBitVec, BitVec.toInt_eq_toNat_of_lt (by omega), h]
theorem own_b {b y : Int32} (h : b.toInt8.toInt32 = y) : y.toInt8.toInt32 = y := by
  subst h; simp
theorem own_mod (x d : Int32) (n : Nat) (hd : d.toInt = n) (hn : 0 < n) : ∃ i : Nat, i < n ∧ (x &&& (2147483647 : Int32)) % d = Int32.ofNat i := by
  have h := own_and32 x 2147483647 31 (by decide) (by decide)
  have q : ((x &&& (2147483647 : Int32)) % d).toInt = ((x.toBitVec.toNat % 2 ^ 31 : Nat) : Int) % n := by
    rw [Int32.toInt_mod, h, hd, Int.tmod_eq_emod_of_nonneg (by omega)]
  have q1 := Int.emod_nonneg ((x.toBitVec.toNat % 2 ^ 31 : Nat) : Int) (show (n : Int) ≠ 0 by omega)
  have q2 := Int.emod_lt_of_pos ((x.toBitVec.toNat % 2 ^ 31 : Nat) : Int) (show (0 : Int) < n by omega)
  refine ⟨(((x.toBitVec.toNat % 2 ^ 31 : Nat) : Int) % n).toNat, by omega, ?_⟩
  apply Int32.toInt_inj.mp
  have : (d.toInt) < 2147483648 := d.toInt_lt
  rw [q, Int32.toInt_ofNat_of_lt (by omega)]
  omega
def own_dig (b : Int32) : Int32 := if b < 48 then 0 else if 57 < b then 0 else 1
def own_isd (xs : List Int32) (most : Int32) : Int32 := if xs = [] then 0 else if most < Int32.ofNat xs.length then 0 else if xs.all (fun b => decide (own_dig b ≠ 0)) then 1 else 0
theorem own_n32 {i : Nat} (h : i < 2147483648) : (Int32.ofNat i).toInt = i := Int32.toInt_ofNat_of_lt h
theorem own_lt32 {i j : Nat} (hi : i < 2147483648) (hj : j < 2147483648) : Int32.ofNat i < Int32.ofNat j ↔ i < j := by
  rw [Int32.lt_iff_toInt_lt, own_n32 hi, own_n32 hj]; omega
theorem own_sub32 {i j : Nat} (hij : i ≤ j) : Int32.ofNat j - Int32.ofNat i = Int32.ofNat (j - i) := by
  rw [← Int32.ofNat_sub _ _ hij]
theorem own_eq32 {i j : Nat} (hi : i < 2147483648) (hj : j < 2147483648) : Int32.ofNat i = Int32.ofNat j ↔ i = j := by
  refine ⟨fun q => ?_, fun q => q ▸ rfl⟩
  have := congrArg Int32.toInt q
  rw [own_n32 hi, own_n32 hj] at this; omega
def own_slice (L : List Int32) (i j : Nat) : List Int32 := (L.take j).drop i
theorem own_slen {L : List Int32} {i j : Nat} (hj : j ≤ L.length) : (own_slice L i j).length = j - i := by simp [own_slice, Nat.min_eq_left hj]
theorem own_snil {L : List Int32} {j : Nat} : own_slice L j j = [] := by simp [own_slice, List.drop_eq_nil_iff, Nat.min_le_left]
theorem own_scons {L : List Int32} {i j : Nat} (hij : i < j) (hj : j ≤ L.length) {b : Int32} (hb : L[i]? = some b) : own_slice L i j = b :: own_slice L (i + 1) j := by
  have hi : i < L.length := by omega
  have e : b = L[i] := by rw [List.getElem?_eq_getElem hi] at hb; exact (Option.some.inj hb).symm
  unfold own_slice
  rw [List.drop_eq_getElem_cons (by simp; omega)]
  simp [e]
theorem own_dig0a {b : Int32} (h : b < 48) : own_dig b = 0 := by unfold own_dig; rw [if_pos h]
theorem own_dig0b {b : Int32} (h : ¬ b < 48) (h2 : 57 < b) : own_dig b = 0 := by unfold own_dig; rw [if_neg h, if_pos h2]
theorem own_dig1 {b : Int32} (h : ¬ b < 48) (h2 : ¬ 57 < b) : own_dig b = 1 := by unfold own_dig; rw [if_neg h, if_neg h2]

def Q1 (bb : Int32) (h0 : Heap) (n0 : Nat) (v : Option Value) (h : Heap) (L : List Loc) : Prop := v = some (.int (own_dig bb)) ∧ Fr n0 L ∧ h = h0
theorem ef_rm1 (m : MethodId) (x0 : Int32) : entryFrame m #[(.int x0)] 1 = mkF m 0 #[.val (.int x0)] [] := by first | (simp [entryFrame, mkF, argsToLocals, Value.category, maxLocals]; done) | rfl
set_option maxRecDepth 65536 in
set_option maxHeartbeats 40000000 in
theorem rm1 (l : Launch) (Z : State) (a0 : Array Value) (hw : ∀ d ∈ tables_1, d.before a0 Z = true) (ws : List Jvm.Cond) (bb : Int32) (h0 : Heap) (n0 : Nat)  :
    MetFree l own_y2 (head1 (Jvm.Cond.code own_y2 method_2_code 1 (some .boolean) :: ws) ({ frames := 0, cells := 0, slots := 0, locals := 0 } : Room)) (fun aR U => aR = #[(.int bb)] ∧ Z.Warmed39 U.vm ∧ U.heap = h0) (fun _ _ _ _ _ => True) (fun _ U o U' => ∃ v L, o = .returned v ∧ Q1 bb h0 n0 v U'.heap L ∧ FrameEnd U o U' L ({ frames := 0, cells := 0, slots := 0, locals := 0 } : Room).cells ({ frames := 0, cells := 0, slots := 0, locals := 0 } : Room).slots) := by
  refine MetFree.of_bodySF pf_2 hisR ?_
  intro p e s m args below meth c s₁ Bd hml0 hP hK
  obtain ⟨rfl, hZ, hhE⟩ := hP
  have hx := Bd.exec
  have hby := Bd.bytes
  have hml : c.maxLocals = 1 := hml0
  have hown : s.vm.findClass "com/example/mapweft/mapweft/release/DecimalDigitsIsDigitsPinLaw" = some m.cls := findClass_of_methodNamed Bd.named
  have hnm := (name_of_methodNamed Bd.named Bd.method).1
  have X0 : Stand p l e ({ frames := 0, cells := 0, slots := 0, locals := 0 } : Room) s m #[(.int bb)] below meth c s₁ [] 0 0 := Stand.of_body Bd
  have e0 : s₁.heap = h0 := by rw [← hhE, Bd.state]; rfl
  have N0 := Fr.nil n0
  show own_Go p e below (own_Post s (Q1 bb h0 n0) ({ frames := 0, cells := 0, slots := 0, locals := 0 } : Room).cells ({ frames := 0, cells := 0, slots := 0, locals := 0 } : Room).slots) (s₁.setTop (entryFrame m #[(.int bb)] 1))
  rw [ef_rm1]
  generalize hG : own_Post s (Q1 bb h0 n0) ({ frames := 0, cells := 0, slots := 0, locals := 0 } : Room).cells ({ frames := 0, cells := 0, slots := 0, locals := 0 } : Room).slots = G
  refine own_iloadN X0 hx (hb hby d2_0) rfl 1 rfl ?_
  refine own_bipush X0 hx (hb hby d2_1) (48 : Int32) rfl 3 rfl ?_
  by_cases c1 : bb < (48 : Int32)
  ·
    refine own_icmpY X0 hx (hb hby d2_3) (tlt c1).1 16 ⟨by decide, by decide⟩ ?_
    refine own_iconst X0 hx (hb hby d2_16) (0 : Int32) rfl 17 rfl ?_
    refine own_nreturn X0 hx Bd.notSynchronized hG Bd.returns (by simp) (hb hby d2_17) (by decide) (by decide) ?_
    rw [e0]
    exact ⟨by first | (unfold own_dig; (try simp only [↓reduceIte, c1]) <;> rfl) | (simp [own_dig, c1, nar]; done) | (simp [own_dig, c1] <;> rfl), N0, rfl⟩
  ·
    refine own_icmpN X0 hx (hb hby d2_3) (flt c1).1 6 rfl ?_
    refine own_iloadN X0 hx (hb hby d2_6) rfl 7 rfl ?_
    refine own_bipush X0 hx (hb hby d2_7) (57 : Int32) rfl 9 rfl ?_
    by_cases c2 : (57 : Int32) < bb
    ·
      refine own_icmpY X0 hx (hb hby d2_9) (tlt c2).2.2.1 16 ⟨by decide, by decide⟩ ?_
      refine own_iconst X0 hx (hb hby d2_16) (0 : Int32) rfl 17 rfl ?_
      refine own_nreturn X0 hx Bd.notSynchronized hG Bd.returns (by simp) (hb hby d2_17) (by decide) (by decide) ?_
      rw [e0]
      exact ⟨by first | (unfold own_dig; (try simp only [↓reduceIte, c1, c2]) <;> rfl) | (simp [own_dig, c1, c2, nar]; done) | (simp [own_dig, c1, c2] <;> rfl), N0, rfl⟩
    ·
      refine own_icmpN X0 hx (hb hby d2_9) (flt c2).2.2.1 12 rfl ?_
      refine own_iconst X0 hx (hb hby d2_12) (1 : Int32) rfl 13 rfl ?_
      refine own_goto X0 hx (hb hby d2_13) 17 ⟨by decide, by decide⟩ ?_
      refine own_nreturn X0 hx Bd.notSynchronized hG Bd.returns (by simp) (hb hby d2_17) (by decide) (by decide) ?_
      rw [e0]
      exact ⟨by first | (unfold own_dig; (try simp only [↓reduceIte, c1, c2]) <;> rfl) | (simp [own_dig, c1, c2, nar]; done) | (simp [own_dig, c1, c2] <;> rfl), N0, rfl⟩
def Q2 (L : List Int32) (i j : Nat) (mo : Int32) (h0 : Heap) (n0 : Nat) (v : Option Value) (h : Heap) (Lc : List Loc) : Prop := v = some (.int (own_isd (own_slice L i j) mo)) ∧ Fr n0 Lc ∧ h = h0
theorem ef_rm2 (m : MethodId) (x0 : Addr) (x1 : Int32) (x2 : Int32) (x3 : Int32) : entryFrame m #[(.ref x0), (.int x1), (.int x2), (.int x3)] 5 = mkF m 0 #[.val (.ref x0), .val (.int x1), .val (.int x2), .val (.int x3), .unset] [] := by first | (simp [entryFrame, mkF, argsToLocals, Value.category, maxLocals]; done) | rfl
set_option maxRecDepth 65536 in
set_option maxHeartbeats 40000000 in
theorem rm2 (l : Launch) (Z : State) (a0 : Array Value) (hw : ∀ d ∈ tables_1, d.before a0 Z = true) (ws : List Jvm.Cond) (a : Addr) (i j : Nat) (mo : Int32) (Ls : List Int32) (h0 : Heap) (n0 : Nat) (hij : i ≤ j) (hj : j ≤ Ls.length) (V0 : own_A .byte Value.int Z h0 a Ls) :
    MetFree l own_y1 (head1 (Jvm.Cond.code own_y1 prog_13_method_2_code 5 (some .boolean) :: ws) ({ frames := 0, cells := 0, slots := 0, locals := 0 } : Room)) (fun aR U => aR = #[(.ref a), (.int (Int32.ofNat i)), (.int (Int32.ofNat j)), (.int mo)] ∧ Z.Warmed39 U.vm ∧ U.heap = h0) (fun _ _ _ _ _ => True) (fun _ U o U' => ∃ v L, o = .returned v ∧ Q2 Ls i j mo h0 n0 v U'.heap L ∧ FrameEnd U o U' L ({ frames := 0, cells := 0, slots := 0, locals := 0 } : Room).cells ({ frames := 0, cells := 0, slots := 0, locals := 0 } : Room).slots) := by
  refine MetFree.of_bodySF pf_1 hisR ?_
  intro p e s m args below meth c s₁ Bd hml0 hP hK
  obtain ⟨rfl, hZ, hhE⟩ := hP
  have hx := Bd.exec
  have hby := Bd.bytes
  have hml : c.maxLocals = 5 := hml0
  have hown : s.vm.findClass "com/example/mapweft/mapweft/release/DecimalDigits" = some m.cls := findClass_of_methodNamed Bd.named
  have hnm := (name_of_methodNamed Bd.named Bd.method).1
  have X0 : Stand p l e ({ frames := 0, cells := 0, slots := 0, locals := 0 } : Room) s m #[(.ref a), (.int (Int32.ofNat i)), (.int (Int32.ofNat j)), (.int mo)] below meth c s₁ [] 0 0 := Stand.of_body Bd
  have e0 : s₁.heap = h0 := by rw [← hhE, Bd.state]; rfl
  have N0 := Fr.nil n0
  show own_Go p e below (own_Post s (Q2 Ls i j mo h0 n0) ({ frames := 0, cells := 0, slots := 0, locals := 0 } : Room).cells ({ frames := 0, cells := 0, slots := 0, locals := 0 } : Room).slots) (s₁.setTop (entryFrame m #[(.ref a), (.int (Int32.ofNat i)), (.int (Int32.ofNat j)), (.int mo)] 5))
  rw [ef_rm2]
  generalize hG : own_Post s (Q2 Ls i j mo h0 n0) ({ frames := 0, cells := 0, slots := 0, locals := 0 } : Room).cells ({ frames := 0, cells := 0, slots := 0, locals := 0 } : Room).slots = G
  have hlen := V0.len
  have hi' : i < 2147483648 := by omega
  have hj' : j < 2147483648 := by omega
  have loop : ∀ d k : Nat, k + d = j → i ≤ k → own_isd (own_slice Ls i j) mo = (if (own_slice Ls k j).all (fun b => decide (own_dig b ≠ 0)) then 1 else 0) → own_Go p e below G (s₁.setTop (mkF m 17 #[.val (.ref a), .val (.int (Int32.ofNat i)), .val (.int (Int32.ofNat j)), .val (.int mo), .val (.int (Int32.ofNat k))] [])) := by
    intro d
    induction d with
    | zero =>
      intro k hk hik hv
      have hkj : k = j := by omega
      subst hkj
      refine own_iload X0 hx (hb hby d1_17) rfl 19 rfl ?_
      refine own_iloadN X0 hx (hb hby d1_19) rfl 20 rfl ?_
      refine own_icmpY X0 hx (hb hby d1_20) (flt (by rw [own_lt32 hj' hj']; omega)).2.1 49 ⟨by decide, by decide⟩ ?_
      refine own_iconst X0 hx (hb hby d1_49) (1 : Int32) rfl 50 rfl ?_
      refine own_nreturn X0 hx Bd.notSynchronized hG Bd.returns (by simp) (hb hby d1_50) (by decide) (by decide) ?_
      rw [e0]
      exact ⟨by rw [hv, own_snil]; rfl, N0, rfl⟩
    | succ d ih =>
      intro k hk hik hv
      have hk' : k < 2147483648 := by omega
      have hkl : k < Ls.length := by omega
      obtain ⟨bb, hbb⟩ : ∃ bb, Ls[k]? = some bb := ⟨_, List.getElem?_eq_getElem hkl⟩
      rw [own_scons (show k < j by omega) hj hbb] at hv
      refine own_iload X0 hx (hb hby d1_17) rfl 19 rfl ?_
      refine own_iloadN X0 hx (hb hby d1_19) rfl 20 rfl ?_
      refine own_icmpN X0 hx (hb hby d1_20) (tlt (by rw [own_lt32 hk' hj']; omega)).2.1 23 rfl ?_
      refine own_aloadN X0 hx (hb hby d1_23) rfl rfl 24 rfl ?_
      refine own_iload X0 hx (hb hby d1_24) rfl 26 rfl ?_
      refine own_baload X0 hx hZ e0 V0 k rfl bb hbb (hb hby d1_26) 27 rfl ?_
      refine own_bipush X0 hx (hb hby d1_27) (48 : Int32) rfl 29 rfl ?_
      by_cases c3 : bb < (48 : Int32)
      ·
        refine own_icmpY X0 hx (hb hby d1_29) (tlt c3).1 41 ⟨by decide, by decide⟩ ?_
        refine own_iconst X0 hx (hb hby d1_41) (0 : Int32) rfl 42 rfl ?_
        refine own_nreturn X0 hx Bd.notSynchronized hG Bd.returns (by simp) (hb hby d1_42) (by decide) (by decide) ?_
        rw [e0]
        exact ⟨by rw [hv]; simp [own_dig0a c3, nar], N0, rfl⟩
      ·
        refine own_icmpN X0 hx (hb hby d1_29) (flt c3).1 32 rfl ?_
        refine own_aloadN X0 hx (hb hby d1_32) rfl rfl 33 rfl ?_
        refine own_iload X0 hx (hb hby d1_33) rfl 35 rfl ?_
        refine own_baload X0 hx hZ e0 V0 k rfl bb hbb (hb hby d1_35) 36 rfl ?_
        refine own_bipush X0 hx (hb hby d1_36) (57 : Int32) rfl 38 rfl ?_
        by_cases c4 : (57 : Int32) < bb
        ·
          refine own_icmpN X0 hx (hb hby d1_38) (tlt c4).2.2.2 41 rfl ?_
          refine own_iconst X0 hx (hb hby d1_41) (0 : Int32) rfl 42 rfl ?_
          refine own_nreturn X0 hx Bd.notSynchronized hG Bd.returns (by simp) (hb hby d1_42) (by decide) (by decide) ?_
          rw [e0]
          exact ⟨by rw [hv]; simp [own_dig0b c3 c4, nar], N0, rfl⟩
        ·
          refine own_icmpY X0 hx (hb hby d1_38) (flt c4).2.2.2 43 ⟨by decide, by decide⟩ ?_
          refine own_iinc X0 hx (hb hby d1_43) rfl #[.val (.ref a), .val (.int (Int32.ofNat i)), .val (.int (Int32.ofNat j)), .val (.int mo), .val (.int ((Int32.ofNat k) + (1 : Int32)))] rfl 46 rfl ?_
          refine own_goto X0 hx (hb hby d1_46) 17 ⟨by decide, by decide⟩ ?_
          rw [show (Int32.ofNat k) + (1 : Int32) = Int32.ofNat (k + 1) from (Int32.ofNat_add k 1).symm]
          exact ih (k + 1) (by omega) (by omega) (by rw [hv]; simp [own_dig1 c3 c4])
  refine own_iloadN X0 hx (hb hby d1_0) rfl 1 rfl ?_
  refine own_iloadN X0 hx (hb hby d1_1) rfl 2 rfl ?_
  by_cases c5 : (Int32.ofNat j) = (Int32.ofNat i)
  ·
    refine own_icmpY X0 hx (hb hby d1_2) (teq c5).1 12 ⟨by decide, by decide⟩ ?_
    refine own_iconst X0 hx (hb hby d1_12) (0 : Int32) rfl 13 rfl ?_
    refine own_nreturn X0 hx Bd.notSynchronized hG Bd.returns (by simp) (hb hby d1_13) (by decide) (by decide) ?_
    rw [e0]
    exact ⟨by rw [own_eq32 hj' hi'] at c5; subst c5; rw [own_snil]; rfl, N0, rfl⟩
  ·
    refine own_icmpN X0 hx (hb hby d1_2) (feq c5).1 5 rfl ?_
    refine own_iloadN X0 hx (hb hby d1_5) rfl 6 rfl ?_
    refine own_iloadN X0 hx (hb hby d1_6) rfl 7 rfl ?_
    refine own_isub X0 hx (hb hby d1_7) 8 rfl ?_
    refine own_iloadN X0 hx (hb hby d1_8) rfl 9 rfl ?_
    rw [own_sub32 hij]
    by_cases c6 : mo < (Int32.ofNat (j - i))
    ·
      refine own_icmpN X0 hx (hb hby d1_9) (tlt c6).2.2.2 12 rfl ?_
      have hne : own_slice Ls i j ≠ [] := fun q => by have := own_slen (i := i) hj; rw [q] at this; rw [own_eq32 hj' hi'] at c5; simp at this; omega
      refine own_iconst X0 hx (hb hby d1_12) (0 : Int32) rfl 13 rfl ?_
      refine own_nreturn X0 hx Bd.notSynchronized hG Bd.returns (by simp) (hb hby d1_13) (by decide) (by decide) ?_
      rw [e0]
      exact ⟨by unfold own_isd; rw [if_neg hne, own_slen hj, if_pos c6]; rfl, N0, rfl⟩
    ·
      refine own_icmpY X0 hx (hb hby d1_9) (flt c6).2.2.2 14 ⟨by decide, by decide⟩ ?_
      have hne : own_slice Ls i j ≠ [] := fun q => by have := own_slen (i := i) hj; rw [q] at this; rw [own_eq32 hj' hi'] at c5; simp at this; omega
      refine own_iloadN X0 hx (hb hby d1_14) rfl 15 rfl ?_
      refine own_istore X0 hx (hb hby d1_15) #[.val (.ref a), .val (.int (Int32.ofNat i)), .val (.int (Int32.ofNat j)), .val (.int mo), .val (.int (Int32.ofNat i))] rfl 17 rfl ?_
      exact loop (j - i) i (by omega) (Nat.le_refl _) (by unfold own_isd; rw [if_neg hne, own_slen hj, if_neg c6])
def Q0 (h0 : Heap) (n0 : Nat) (v : Option Value) (h : Heap) (L : List Loc) : Prop := v = some (.int 1) ∧ Fr n0 L
theorem ef_rm0 (m : MethodId) (x0 : Int32) (x1 : Int32) (x2 : Int32) (x3 : Int32) : entryFrame m #[(.int x0), (.int x1), (.int x2), (.int x3)] maxLocals = mkF m 0 #[.val (.int x0), .val (.int x1), .val (.int x2), .val (.int x3), .unset, .unset, .unset, .unset, .unset, .unset] [] := by first | (simp [entryFrame, mkF, argsToLocals, Value.category, maxLocals]; done) | rfl
set_option maxRecDepth 65536 in
set_option maxHeartbeats 40000000 in
theorem rm0 (l : Launch) (Z : State) (a0 : Array Value) (hw : ∀ d ∈ tables_1, d.before a0 Z = true) (ws : List Jvm.Cond) (v0 v1 v2 v3 : Int32) (h0 : Heap) (n0 : Nat) (Z0 : n0 ≤ h0.size) :
    MetFree l x (head1 (Jvm.Cond.code x code maxLocals ret :: ws) room_1) (fun aR U => aR = #[(.int v0), (.int v1), (.int v2), (.int v3)] ∧ Z.Warmed39 U.vm ∧ U.heap = h0) (fun _ _ _ _ _ => True) (fun _ U o U' => ∃ v L, o = .returned v ∧ Q0 h0 n0 v U'.heap L ∧ FrameEnd U o U' L room_1.cells room_1.slots) := by
  refine MetFree.of_bodySF (plainFor_of_name pn_0) hisR ?_
  intro p e s m args below meth c s₁ Bd hml0 hP hK
  obtain ⟨rfl, hZ, hhE⟩ := hP
  have hx := Bd.exec
  have hby := Bd.bytes
  have hml : c.maxLocals = 10 := hml0
  have hown : s.vm.findClass "com/example/mapweft/mapweft/release/DecimalDigitsIsDigitsPinLaw" = some m.cls := findClass_of_methodNamed Bd.named
  have hnm := (name_of_methodNamed Bd.named Bd.method).1
  have X0 : Stand p l e room_1 s m #[(.int v0), (.int v1), (.int v2), (.int v3)] below meth c s₁ [] 0 0 := Stand.of_body Bd
  have e0 : s₁.heap = h0 := by rw [← hhE, Bd.state]; rfl
  have N0 := Fr.nil n0
  show own_Go p e below (own_Post s (Q0 h0 n0) room_1.cells room_1.slots) (s₁.setTop (entryFrame m #[(.int v0), (.int v1), (.int v2), (.int v3)] maxLocals))
  rw [ef_rm0]
  generalize hG : own_Post s (Q0 h0 n0) room_1.cells room_1.slots = G
  refine own_iconst X0 hx (hb hby at_0) (4 : Int32) rfl 1 rfl ?_
  refine own_newB X0 hx hZ (own_w hw 0 rfl) e0 (hb hby at_1) 4 rfl 4 (by decide) (by decide) (by decide) (by decide) 3 rfl (fun T7 h7 a7 g7 X7 e7 E7 V7 => ?_)
  have ge8 : n0 ≤ a7 := by rw [g7]; exact Z0
  have Z9 : n0 ≤ h7.size := Nat.le_trans Z0 E7.1
  rw [show (List.replicate 4 (0 : Int32)) = [(0 : Int32), (0 : Int32), (0 : Int32), (0 : Int32)] from rfl] at V7
  refine own_astore X7 hx (hb hby at_3) rfl #[.val (.int v0), .val (.int v1), .val (.int v2), .val (.int v3), .val (.ref a7), .unset, .unset, .unset, .unset, .unset] rfl 5 rfl ?_
  refine own_aload X7 hx (hb hby at_5) rfl rfl 7 rfl ?_
  refine own_iconst X7 hx (hb hby at_7) (0 : Int32) rfl 8 rfl ?_
  refine own_iloadN X7 hx (hb hby at_8) rfl 9 rfl ?_
  refine own_i2b X7 hx (hb hby at_9) 10 rfl ?_
  generalize hy10 : (v0).toInt8.toInt32 = y10
  refine own_bastore X7 hx hZ e7 V7 0 rfl (by simp) (hb hby at_10) 11 rfl (fun T11 h11 X11 e11 W11 V11 => ?_)
  rw [show [(0 : Int32), (0 : Int32), (0 : Int32), (0 : Int32)].set 0 (y10.toInt8.toInt32) = [y10, (0 : Int32), (0 : Int32), (0 : Int32)] from (by rw [own_b hy10]; rfl)] at V11
  have N12 := Fr.snoc X11 N0 ge8
  have Z13 : n0 ≤ h11.size := by rw [W11.size]; exact Z9
  refine own_aload X11 hx (hb hby at_11) rfl rfl 13 rfl ?_
  refine own_iconst X11 hx (hb hby at_13) (1 : Int32) rfl 14 rfl ?_
  refine own_iloadN X11 hx (hb hby at_14) rfl 15 rfl ?_
  refine own_bipush X11 hx (hb hby at_15) (8 : Int32) rfl 17 rfl ?_
  refine own_iushr X11 hx (hb hby at_17) 18 rfl ?_
  refine own_i2b X11 hx (hb hby at_18) 19 rfl ?_
  generalize hy14 : (((v0).toUInt32 >>> ((8 : Int32) &&& 31).toUInt32).toInt32).toInt8.toInt32 = y14
  refine own_bastore X11 hx hZ e11 V11 1 rfl (by simp) (hb hby at_19) 20 rfl (fun T15 h15 X15 e15 W15 V15 => ?_)
  rw [show [y10, (0 : Int32), (0 : Int32), (0 : Int32)].set 1 (y14.toInt8.toInt32) = [y10, y14, (0 : Int32), (0 : Int32)] from (by rw [own_b hy14]; rfl)] at V15
  have N16 := Fr.snoc X15 N12 ge8
  have Z17 : n0 ≤ h15.size := by rw [W15.size]; exact Z13
  refine own_aload X15 hx (hb hby at_20) rfl rfl 22 rfl ?_
  refine own_iconst X15 hx (hb hby at_22) (2 : Int32) rfl 23 rfl ?_
  refine own_iloadN X15 hx (hb hby at_23) rfl 24 rfl ?_
  refine own_bipush X15 hx (hb hby at_24) (16 : Int32) rfl 26 rfl ?_
  refine own_iushr X15 hx (hb hby at_26) 27 rfl ?_
  refine own_i2b X15 hx (hb hby at_27) 28 rfl ?_
  generalize hy18 : (((v0).toUInt32 >>> ((16 : Int32) &&& 31).toUInt32).toInt32).toInt8.toInt32 = y18
  refine own_bastore X15 hx hZ e15 V15 2 rfl (by simp) (hb hby at_28) 29 rfl (fun T19 h19 X19 e19 W19 V19 => ?_)
  rw [show [y10, y14, (0 : Int32), (0 : Int32)].set 2 (y18.toInt8.toInt32) = [y10, y14, y18, (0 : Int32)] from (by rw [own_b hy18]; rfl)] at V19
  have N20 := Fr.snoc X19 N16 ge8
  have Z21 : n0 ≤ h19.size := by rw [W19.size]; exact Z17
  refine own_aload X19 hx (hb hby at_29) rfl rfl 31 rfl ?_
  refine own_iconst X19 hx (hb hby at_31) (3 : Int32) rfl 32 rfl ?_
  refine own_iloadN X19 hx (hb hby at_32) rfl 33 rfl ?_
  refine own_bipush X19 hx (hb hby at_33) (24 : Int32) rfl 35 rfl ?_
  refine own_iushr X19 hx (hb hby at_35) 36 rfl ?_
  refine own_i2b X19 hx (hb hby at_36) 37 rfl ?_
  generalize hy22 : (((v0).toUInt32 >>> ((24 : Int32) &&& 31).toUInt32).toInt32).toInt8.toInt32 = y22
  refine own_bastore X19 hx hZ e19 V19 3 rfl (by simp) (hb hby at_37) 38 rfl (fun T23 h23 X23 e23 W23 V23 => ?_)
  rw [show [y10, y14, y18, (0 : Int32)].set 3 (y22.toInt8.toInt32) = [y10, y14, y18, y22] from (by rw [own_b hy22]; rfl)] at V23
  have N24 := Fr.snoc X23 N20 ge8
  have Z25 : n0 ≤ h23.size := by rw [W23.size]; exact Z21
  refine own_iloadN X23 hx (hb hby at_38) rfl 39 rfl ?_
  refine own_ldcInt X23 hx hown (mvT hZ (own_w hw 1 rfl)) (hb hby at_39) 41 rfl ?_
  refine own_iand X23 hx (hb hby at_41) 42 rfl ?_
  refine own_iconst X23 hx (hb hby at_42) (5 : Int32) rfl 43 rfl ?_
  refine own_irem X23 hx (hb hby at_43) (by decide) 44 rfl ?_
  generalize hy26 : ((v1 &&& (2147483647 : Int32)) % (5 : Int32)) = y26
  refine own_istore X23 hx (hb hby at_44) #[.val (.int v0), .val (.int v1), .val (.int v2), .val (.int v3), .val (.ref a7), .val (.int y26), .unset, .unset, .unset, .unset] rfl 46 rfl ?_
  have hm : y26 = 0 ∨ y26 = 1 ∨ y26 = 2 ∨ y26 = 3 ∨ y26 = 4 := by
    obtain ⟨i, hi, he⟩ := own_mod v1 5 5 rfl (by decide)
    rw [← hy26, he]
    have q : i = 0 ∨ i = 1 ∨ i = 2 ∨ i = 3 ∨ i = 4 := by omega
    rcases q with rfl | rfl | rfl | rfl | rfl <;> decide
  rcases hm with rfl | rfl | rfl | rfl | rfl
  ·
    refine own_iload X23 hx (hb hby at_46) rfl 48 rfl ?_
    refine own_iloadN X23 hx (hb hby at_48) rfl 49 rfl ?_
    refine own_ldcInt X23 hx hown (mvT hZ (own_w hw 1 rfl)) (hb hby at_49) 51 rfl ?_
    refine own_iand X23 hx (hb hby at_51) 52 rfl ?_
    refine own_iconst X23 hx (hb hby at_52) (5 : Int32) rfl 53 rfl ?_
    refine own_iload X23 hx (hb hby at_53) rfl 55 rfl ?_
    refine own_isub X23 hx (hb hby at_55) 56 rfl ?_
    show own_Go p e below G (T23.setTop (mkF m 56 #[.val (.int v0), .val (.int v1), .val (.int v2), .val (.int v3), .val (.ref a7), .val (.int (0 : Int32)), .unset, .unset, .unset, .unset] [(.int (5 : Int32)), (.int (v2 &&& (2147483647 : Int32))), (.int (0 : Int32))]))
    refine own_irem X23 hx (hb hby at_56) (by decide) 57 rfl ?_
    generalize hy27 : ((v2 &&& (2147483647 : Int32)) % (5 : Int32)) = y27
    have hm : y27 = 0 ∨ y27 = 1 ∨ y27 = 2 ∨ y27 = 3 ∨ y27 = 4 := by
      obtain ⟨i, hi, he⟩ := own_mod v2 5 5 rfl (by decide)
      rw [← hy27, he]
      have q : i = 0 ∨ i = 1 ∨ i = 2 ∨ i = 3 ∨ i = 4 := by omega
      rcases q with rfl | rfl | rfl | rfl | rfl <;> decide
    rcases hm with rfl | rfl | rfl | rfl | rfl
    ·
      refine own_iadd X23 hx (hb hby at_57) 58 rfl ?_
      show own_Go p e below G (T23.setTop (mkF m 58 #[.val (.int v0), .val (.int v1), .val (.int v2), .val (.int v3), .val (.ref a7), .val (.int (0 : Int32)), .unset, .unset, .unset, .unset] [(.int (0 : Int32))]))
      refine own_istore X23 hx (hb hby at_58) #[.val (.int v0), .val (.int v1), .val (.int v2), .val (.int v3), .val (.ref a7), .val (.int (0 : Int32)), .val (.int (0 : Int32)), .unset, .unset, .unset] rfl 60 rfl ?_
      refine own_iload X23 hx (hb hby at_60) rfl 62 rfl ?_
      refine own_iload X23 hx (hb hby at_62) rfl 64 rfl ?_
      refine own_isub X23 hx (hb hby at_64) 65 rfl ?_
      show own_Go p e below G (T23.setTop (mkF m 65 #[.val (.int v0), .val (.int v1), .val (.int v2), .val (.int v3), .val (.ref a7), .val (.int (0 : Int32)), .val (.int (0 : Int32)), .unset, .unset, .unset] [(.int (0 : Int32))]))
      refine own_istore X23 hx (hb hby at_65) #[.val (.int v0), .val (.int v1), .val (.int v2), .val (.int v3), .val (.ref a7), .val (.int (0 : Int32)), .val (.int (0 : Int32)), .val (.int (0 : Int32)), .unset, .unset] rfl 67 rfl ?_
      refine own_iload X23 hx (hb hby at_67) rfl 69 rfl ?_
      refine own_ifN X23 hx (hb hby at_69) ((if0 _ _).trans (flt (by decide)).2.2.1) 72 rfl ?_
      refine own_iload X23 hx (hb hby at_72) rfl 74 rfl ?_
      refine own_ifY X23 hx (hb hby at_74) ((if0 _ _).trans (flt (by decide)).2.2.2) 87 ⟨by decide, by decide⟩ ?_
      refine own_iload X23 hx (hb hby at_87) rfl 89 rfl ?_
      refine own_iconst X23 hx (hb hby at_89) (1 : Int32) rfl 90 rfl ?_
      refine own_icmpN X23 hx (hb hby at_90) (flt (by decide)).2.2.1 93 rfl ?_
      refine own_iload X23 hx (hb hby at_93) rfl 95 rfl ?_
      refine own_iconst X23 hx (hb hby at_95) (1 : Int32) rfl 96 rfl ?_
      refine own_icmpY X23 hx (hb hby at_96) (flt (by decide)).2.2.2 109 ⟨by decide, by decide⟩ ?_
      refine own_iload X23 hx (hb hby at_109) rfl 111 rfl ?_
      refine own_iconst X23 hx (hb hby at_111) (2 : Int32) rfl 112 rfl ?_
      refine own_icmpN X23 hx (hb hby at_112) (flt (by decide)).2.2.1 115 rfl ?_
      refine own_iload X23 hx (hb hby at_115) rfl 117 rfl ?_
      refine own_iconst X23 hx (hb hby at_117) (2 : Int32) rfl 118 rfl ?_
      refine own_icmpY X23 hx (hb hby at_118) (flt (by decide)).2.2.2 131 ⟨by decide, by decide⟩ ?_
      refine own_iload X23 hx (hb hby at_131) rfl 133 rfl ?_
      refine own_iconst X23 hx (hb hby at_133) (3 : Int32) rfl 134 rfl ?_
      refine own_icmpN X23 hx (hb hby at_134) (flt (by decide)).2.2.1 137 rfl ?_
      refine own_iload X23 hx (hb hby at_137) rfl 139 rfl ?_
      refine own_iconst X23 hx (hb hby at_139) (3 : Int32) rfl 140 rfl ?_
      refine own_icmpY X23 hx (hb hby at_140) (flt (by decide)).2.2.2 153 ⟨by decide, by decide⟩ ?_
      refine own_iconst X23 hx (hb hby at_153) (1 : Int32) rfl 154 rfl ?_
      refine own_goto X23 hx (hb hby at_154) 158 ⟨by decide, by decide⟩ ?_
      refine own_istore X23 hx (hb hby at_158) #[.val (.int v0), .val (.int v1), .val (.int v2), .val (.int v3), .val (.ref a7), .val (.int (0 : Int32)), .val (.int (0 : Int32)), .val (.int (0 : Int32)), .val (.int (1 : Int32)), .unset] rfl 160 rfl ?_
      refine own_iload X23 hx (hb hby at_160) rfl 162 rfl ?_
      refine own_iconst X23 hx (hb hby at_162) (1 : Int32) rfl 163 rfl ?_
      refine own_icmpY X23 hx (hb hby at_163) (tlt (by decide)).1 181 ⟨by decide, by decide⟩ ?_
      refine own_iconst X23 hx (hb hby at_181) (0 : Int32) rfl 182 rfl ?_
      refine own_istore X23 hx (hb hby at_182) #[.val (.int v0), .val (.int v1), .val (.int v2), .val (.int v3), .val (.ref a7), .val (.int (0 : Int32)), .val (.int (0 : Int32)), .val (.int (0 : Int32)), .val (.int (1 : Int32)), .val (.int (0 : Int32))] rfl 184 rfl ?_
      refine own_aload X23 hx (hb hby at_184) rfl rfl 186 rfl ?_
      refine own_iload X23 hx (hb hby at_186) rfl 188 rfl ?_
      refine own_iload X23 hx (hb hby at_188) rfl 190 rfl ?_
      refine own_iloadN X23 hx (hb hby at_190) rfl 191 rfl ?_
      refine own_callS X23 hx hZ hown (own_w hw 2 rfl) (own_w hw 3 rfl) (own_w hw 4 rfl) (own_w hw 5 rfl) (by decide) e23 (rm2 l Z a0 hw [] a7 0 0 v3 [y10, y14, y18, y22] h23 n0 (by decide) (by simp) V23) (by rw [hml]; rfl) pd_0 (argsL := [(.ref a7), (.int (0 : Int32)), (.int (0 : Int32)), (.int v3)]) rfl (rest := []) rfl (hb hby at_191) 0 (Nat.le_of_eq rfl) (by decide) (by decide) (by decide) (by decide) 194 rfl (fun T28 L28 v28 X28 hQ28 => ?_)
      obtain ⟨rfl, N28, e28⟩ := hQ28
      have N29 := Fr.app N24 N28
      show own_Go p e below G (T28.setTop (mkF m 194 #[.val (.int v0), .val (.int v1), .val (.int v2), .val (.int v3), .val (.ref a7), .val (.int (0 : Int32)), .val (.int (0 : Int32)), .val (.int (0 : Int32)), .val (.int (1 : Int32)), .val (.int (0 : Int32))] [(.int (own_isd (own_slice [y10, y14, y18, y22] 0 0) v3))]))
      refine own_iload X28 hx (hb hby at_194) rfl 196 rfl ?_
      refine own_icmpN X28 hx (hb hby at_196) (teq (by rw [show own_slice [y10, y14, y18, y22] 0 0 = ([] : List Int32) from rfl]; simp [own_isd])).2 199 rfl ?_
      refine own_iconst X28 hx (hb hby at_199) (1 : Int32) rfl 200 rfl ?_
      refine own_goto X28 hx (hb hby at_200) 204 ⟨by decide, by decide⟩ ?_
      refine own_nreturn X28 hx Bd.notSynchronized hG Bd.returns (by simp) (hb hby at_204) (by decide) (by decide) ?_
      rw [e28]
      exact ⟨rfl, N29⟩
    ·
      refine own_iadd X23 hx (hb hby at_57) 58 rfl ?_
      show own_Go p e below G (T23.setTop (mkF m 58 #[.val (.int v0), .val (.int v1), .val (.int v2), .val (.int v3), .val (.ref a7), .val (.int (0 : Int32)), .unset, .unset, .unset, .unset] [(.int (1 : Int32))]))
      refine own_istore X23 hx (hb hby at_58) #[.val (.int v0), .val (.int v1), .val (.int v2), .val (.int v3), .val (.ref a7), .val (.int (0 : Int32)), .val (.int (1 : Int32)), .unset, .unset, .unset] rfl 60 rfl ?_
      refine own_iload X23 hx (hb hby at_60) rfl 62 rfl ?_
      refine own_iload X23 hx (hb hby at_62) rfl 64 rfl ?_
      refine own_isub X23 hx (hb hby at_64) 65 rfl ?_
      show own_Go p e below G (T23.setTop (mkF m 65 #[.val (.int v0), .val (.int v1), .val (.int v2), .val (.int v3), .val (.ref a7), .val (.int (0 : Int32)), .val (.int (1 : Int32)), .unset, .unset, .unset] [(.int (1 : Int32))]))
      refine own_istore X23 hx (hb hby at_65) #[.val (.int v0), .val (.int v1), .val (.int v2), .val (.int v3), .val (.ref a7), .val (.int (0 : Int32)), .val (.int (1 : Int32)), .val (.int (1 : Int32)), .unset, .unset] rfl 67 rfl ?_
      refine own_iload X23 hx (hb hby at_67) rfl 69 rfl ?_
      refine own_ifN X23 hx (hb hby at_69) ((if0 _ _).trans (flt (by decide)).2.2.1) 72 rfl ?_
      refine own_iload X23 hx (hb hby at_72) rfl 74 rfl ?_
      refine own_ifN X23 hx (hb hby at_74) ((if0 _ _).trans (tlt (by decide)).2.2.2) 77 rfl ?_
      refine own_aload X23 hx (hb hby at_77) rfl rfl 79 rfl ?_
      refine own_iconst X23 hx (hb hby at_79) (0 : Int32) rfl 80 rfl ?_
      refine own_baload X23 hx hZ e23 V23 0 rfl y10 rfl (hb hby at_80) 81 rfl ?_
      refine own_callS X23 hx hZ hown (own_w hw 6 rfl) (own_w hw 7 rfl) (own_w hw 8 rfl) (own_w hw 9 rfl) (by decide) e23 (rm1 l Z a0 hw [] y10 h23 n0) (by rw [hml]; rfl) pd_1 (argsL := [(.int y10)]) rfl (rest := []) rfl (hb hby at_81) 0 (Nat.le_of_eq rfl) (by decide) (by decide) (by decide) (by decide) 84 rfl (fun T30 L30 v30 X30 hQ30 => ?_)
      obtain ⟨rfl, N30, e30⟩ := hQ30
      have N31 := Fr.app N24 N30
      show own_Go p e below G (T30.setTop (mkF m 84 #[.val (.int v0), .val (.int v1), .val (.int v2), .val (.int v3), .val (.ref a7), .val (.int (0 : Int32)), .val (.int (1 : Int32)), .val (.int (1 : Int32)), .unset, .unset] [(.int (own_dig y10))]))
      by_cases c32 : (own_dig y10) = (0 : Int32)
      ·
        refine own_ifY X30 hx (hb hby at_84) ((if0 _ _).trans (teq c32).1) 157 ⟨by decide, by decide⟩ ?_
        refine own_iconst X30 hx (hb hby at_157) (0 : Int32) rfl 158 rfl ?_
        refine own_istore X30 hx (hb hby at_158) #[.val (.int v0), .val (.int v1), .val (.int v2), .val (.int v3), .val (.ref a7), .val (.int (0 : Int32)), .val (.int (1 : Int32)), .val (.int (1 : Int32)), .val (.int (0 : Int32)), .unset] rfl 160 rfl ?_
        refine own_iload X30 hx (hb hby at_160) rfl 162 rfl ?_
        refine own_iconst X30 hx (hb hby at_162) (1 : Int32) rfl 163 rfl ?_
        refine own_icmpN X30 hx (hb hby at_163) (flt (by decide)).1 166 rfl ?_
        refine own_iload X30 hx (hb hby at_166) rfl 168 rfl ?_
        refine own_iloadN X30 hx (hb hby at_168) rfl 169 rfl ?_
        by_cases c33 : v3 < (1 : Int32)
        ·
          refine own_icmpY X30 hx (hb hby at_169) (tlt c33).2.2.1 181 ⟨by decide, by decide⟩ ?_
          refine own_iconst X30 hx (hb hby at_181) (0 : Int32) rfl 182 rfl ?_
          refine own_istore X30 hx (hb hby at_182) #[.val (.int v0), .val (.int v1), .val (.int v2), .val (.int v3), .val (.ref a7), .val (.int (0 : Int32)), .val (.int (1 : Int32)), .val (.int (1 : Int32)), .val (.int (0 : Int32)), .val (.int (0 : Int32))] rfl 184 rfl ?_
          refine own_aload X30 hx (hb hby at_184) rfl rfl 186 rfl ?_
          refine own_iload X30 hx (hb hby at_186) rfl 188 rfl ?_
          refine own_iload X30 hx (hb hby at_188) rfl 190 rfl ?_
          refine own_iloadN X30 hx (hb hby at_190) rfl 191 rfl ?_
          refine own_callS X30 hx hZ hown (own_w hw 2 rfl) (own_w hw 3 rfl) (own_w hw 4 rfl) (own_w hw 5 rfl) (by decide) e30 (rm2 l Z a0 hw [] a7 0 1 v3 [y10, y14, y18, y22] h23 n0 (by decide) (by simp) V23) (by rw [hml]; rfl) pd_0 (argsL := [(.ref a7), (.int (0 : Int32)), (.int (1 : Int32)), (.int v3)]) rfl (rest := []) rfl (hb hby at_191) 0 (Nat.le_of_eq rfl) (by decide) (by decide) (by decide) (by decide) 194 rfl (fun T34 L34 v34 X34 hQ34 => ?_)
          obtain ⟨rfl, N34, e34⟩ := hQ34
          have N35 := Fr.app N31 N34
          show own_Go p e below G (T34.setTop (mkF m 194 #[.val (.int v0), .val (.int v1), .val (.int v2), .val (.int v3), .val (.ref a7), .val (.int (0 : Int32)), .val (.int (1 : Int32)), .val (.int (1 : Int32)), .val (.int (0 : Int32)), .val (.int (0 : Int32))] [(.int (own_isd (own_slice [y10, y14, y18, y22] 0 1) v3))]))
          refine own_iload X34 hx (hb hby at_194) rfl 196 rfl ?_
          refine own_icmpN X34 hx (hb hby at_196) (teq (by rw [show own_slice [y10, y14, y18, y22] 0 1 = [y10] from rfl]; simp [own_isd, c32, c33])).2 199 rfl ?_
          refine own_iconst X34 hx (hb hby at_199) (1 : Int32) rfl 200 rfl ?_
          refine own_goto X34 hx (hb hby at_200) 204 ⟨by decide, by decide⟩ ?_
          refine own_nreturn X34 hx Bd.notSynchronized hG Bd.returns (by simp) (hb hby at_204) (by decide) (by decide) ?_
          rw [e34]
          exact ⟨rfl, N35⟩
        ·
          refine own_icmpN X30 hx (hb hby at_169) (flt c33).2.2.1 172 rfl ?_
          refine own_iload X30 hx (hb hby at_172) rfl 174 rfl ?_
          refine own_ifY X30 hx (hb hby at_174) ((if0 _ _).trans (teq (by decide)).1) 181 ⟨by decide, by decide⟩ ?_
          refine own_iconst X30 hx (hb hby at_181) (0 : Int32) rfl 182 rfl ?_
          refine own_istore X30 hx (hb hby at_182) #[.val (.int v0), .val (.int v1), .val (.int v2), .val (.int v3), .val (.ref a7), .val (.int (0 : Int32)), .val (.int (1 : Int32)), .val (.int (1 : Int32)), .val (.int (0 : Int32)), .val (.int (0 : Int32))] rfl 184 rfl ?_
          refine own_aload X30 hx (hb hby at_184) rfl rfl 186 rfl ?_
          refine own_iload X30 hx (hb hby at_186) rfl 188 rfl ?_
          refine own_iload X30 hx (hb hby at_188) rfl 190 rfl ?_
          refine own_iloadN X30 hx (hb hby at_190) rfl 191 rfl ?_
          refine own_callS X30 hx hZ hown (own_w hw 2 rfl) (own_w hw 3 rfl) (own_w hw 4 rfl) (own_w hw 5 rfl) (by decide) e30 (rm2 l Z a0 hw [] a7 0 1 v3 [y10, y14, y18, y22] h23 n0 (by decide) (by simp) V23) (by rw [hml]; rfl) pd_0 (argsL := [(.ref a7), (.int (0 : Int32)), (.int (1 : Int32)), (.int v3)]) rfl (rest := []) rfl (hb hby at_191) 0 (Nat.le_of_eq rfl) (by decide) (by decide) (by decide) (by decide) 194 rfl (fun T36 L36 v36 X36 hQ36 => ?_)
          obtain ⟨rfl, N36, e36⟩ := hQ36
          have N37 := Fr.app N31 N36
          show own_Go p e below G (T36.setTop (mkF m 194 #[.val (.int v0), .val (.int v1), .val (.int v2), .val (.int v3), .val (.ref a7), .val (.int (0 : Int32)), .val (.int (1 : Int32)), .val (.int (1 : Int32)), .val (.int (0 : Int32)), .val (.int (0 : Int32))] [(.int (own_isd (own_slice [y10, y14, y18, y22] 0 1) v3))]))
          refine own_iload X36 hx (hb hby at_194) rfl 196 rfl ?_
          refine own_icmpN X36 hx (hb hby at_196) (teq (by rw [show own_slice [y10, y14, y18, y22] 0 1 = [y10] from rfl]; simp [own_isd, c32, c33])).2 199 rfl ?_
          refine own_iconst X36 hx (hb hby at_199) (1 : Int32) rfl 200 rfl ?_
          refine own_goto X36 hx (hb hby at_200) 204 ⟨by decide, by decide⟩ ?_
          refine own_nreturn X36 hx Bd.notSynchronized hG Bd.returns (by simp) (hb hby at_204) (by decide) (by decide) ?_
          rw [e36]
          exact ⟨rfl, N37⟩
      ·
        refine own_ifN X30 hx (hb hby at_84) ((if0 _ _).trans (feq c32).1) 87 rfl ?_
        refine own_iload X30 hx (hb hby at_87) rfl 89 rfl ?_
        refine own_iconst X30 hx (hb hby at_89) (1 : Int32) rfl 90 rfl ?_
        refine own_icmpN X30 hx (hb hby at_90) (flt (by decide)).2.2.1 93 rfl ?_
        refine own_iload X30 hx (hb hby at_93) rfl 95 rfl ?_
        refine own_iconst X30 hx (hb hby at_95) (1 : Int32) rfl 96 rfl ?_
        refine own_icmpY X30 hx (hb hby at_96) (flt (by decide)).2.2.2 109 ⟨by decide, by decide⟩ ?_
        refine own_iload X30 hx (hb hby at_109) rfl 111 rfl ?_
        refine own_iconst X30 hx (hb hby at_111) (2 : Int32) rfl 112 rfl ?_
        refine own_icmpN X30 hx (hb hby at_112) (flt (by decide)).2.2.1 115 rfl ?_
        refine own_iload X30 hx (hb hby at_115) rfl 117 rfl ?_
        refine own_iconst X30 hx (hb hby at_117) (2 : Int32) rfl 118 rfl ?_
        refine own_icmpY X30 hx (hb hby at_118) (flt (by decide)).2.2.2 131 ⟨by decide, by decide⟩ ?_
        refine own_iload X30 hx (hb hby at_131) rfl 133 rfl ?_
        refine own_iconst X30 hx (hb hby at_133) (3 : Int32) rfl 134 rfl ?_
        refine own_icmpN X30 hx (hb hby at_134) (flt (by decide)).2.2.1 137 rfl ?_
        refine own_iload X30 hx (hb hby at_137) rfl 139 rfl ?_
        refine own_iconst X30 hx (hb hby at_139) (3 : Int32) rfl 140 rfl ?_
        refine own_icmpY X30 hx (hb hby at_140) (flt (by decide)).2.2.2 153 ⟨by decide, by decide⟩ ?_
        refine own_iconst X30 hx (hb hby at_153) (1 : Int32) rfl 154 rfl ?_
        refine own_goto X30 hx (hb hby at_154) 158 ⟨by decide, by decide⟩ ?_
        refine own_istore X30 hx (hb hby at_158) #[.val (.int v0), .val (.int v1), .val (.int v2), .val (.int v3), .val (.ref a7), .val (.int (0 : Int32)), .val (.int (1 : Int32)), .val (.int (1 : Int32)), .val (.int (1 : Int32)), .unset] rfl 160 rfl ?_
        refine own_iload X30 hx (hb hby at_160) rfl 162 rfl ?_
        refine own_iconst X30 hx (hb hby at_162) (1 : Int32) rfl 163 rfl ?_
        refine own_icmpN X30 hx (hb hby at_163) (flt (by decide)).1 166 rfl ?_
        refine own_iload X30 hx (hb hby at_166) rfl 168 rfl ?_
        refine own_iloadN X30 hx (hb hby at_168) rfl 169 rfl ?_
        by_cases c38 : v3 < (1 : Int32)
        ·
          refine own_icmpY X30 hx (hb hby at_169) (tlt c38).2.2.1 181 ⟨by decide, by decide⟩ ?_
          refine own_iconst X30 hx (hb hby at_181) (0 : Int32) rfl 182 rfl ?_
          refine own_istore X30 hx (hb hby at_182) #[.val (.int v0), .val (.int v1), .val (.int v2), .val (.int v3), .val (.ref a7), .val (.int (0 : Int32)), .val (.int (1 : Int32)), .val (.int (1 : Int32)), .val (.int (1 : Int32)), .val (.int (0 : Int32))] rfl 184 rfl ?_
          refine own_aload X30 hx (hb hby at_184) rfl rfl 186 rfl ?_
          refine own_iload X30 hx (hb hby at_186) rfl 188 rfl ?_
          refine own_iload X30 hx (hb hby at_188) rfl 190 rfl ?_
          refine own_iloadN X30 hx (hb hby at_190) rfl 191 rfl ?_
          refine own_callS X30 hx hZ hown (own_w hw 2 rfl) (own_w hw 3 rfl) (own_w hw 4 rfl) (own_w hw 5 rfl) (by decide) e30 (rm2 l Z a0 hw [] a7 0 1 v3 [y10, y14, y18, y22] h23 n0 (by decide) (by simp) V23) (by rw [hml]; rfl) pd_0 (argsL := [(.ref a7), (.int (0 : Int32)), (.int (1 : Int32)), (.int v3)]) rfl (rest := []) rfl (hb hby at_191) 0 (Nat.le_of_eq rfl) (by decide) (by decide) (by decide) (by decide) 194 rfl (fun T39 L39 v39 X39 hQ39 => ?_)
          obtain ⟨rfl, N39, e39⟩ := hQ39
          have N40 := Fr.app N31 N39
          show own_Go p e below G (T39.setTop (mkF m 194 #[.val (.int v0), .val (.int v1), .val (.int v2), .val (.int v3), .val (.ref a7), .val (.int (0 : Int32)), .val (.int (1 : Int32)), .val (.int (1 : Int32)), .val (.int (1 : Int32)), .val (.int (0 : Int32))] [(.int (own_isd (own_slice [y10, y14, y18, y22] 0 1) v3))]))
          refine own_iload X39 hx (hb hby at_194) rfl 196 rfl ?_
          refine own_icmpN X39 hx (hb hby at_196) (teq (by rw [show own_slice [y10, y14, y18, y22] 0 1 = [y10] from rfl]; simp [own_isd, c32, c38])).2 199 rfl ?_
          refine own_iconst X39 hx (hb hby at_199) (1 : Int32) rfl 200 rfl ?_
          refine own_goto X39 hx (hb hby at_200) 204 ⟨by decide, by decide⟩ ?_
          refine own_nreturn X39 hx Bd.notSynchronized hG Bd.returns (by simp) (hb hby at_204) (by decide) (by decide) ?_
          rw [e39]
          exact ⟨rfl, N40⟩
        ·
          refine own_icmpN X30 hx (hb hby at_169) (flt c38).2.2.1 172 rfl ?_
          refine own_iload X30 hx (hb hby at_172) rfl 174 rfl ?_
          refine own_ifN X30 hx (hb hby at_174) ((if0 _ _).trans (feq (by decide)).1) 177 rfl ?_
          refine own_iconst X30 hx (hb hby at_177) (1 : Int32) rfl 178 rfl ?_
          refine own_goto X30 hx (hb hby at_178) 182 ⟨by decide, by decide⟩ ?_
          refine own_istore X30 hx (hb hby at_182) #[.val (.int v0), .val (.int v1), .val (.int v2), .val (.int v3), .val (.ref a7), .val (.int (0 : Int32)), .val (.int (1 : Int32)), .val (.int (1 : Int32)), .val (.int (1 : Int32)), .val (.int (1 : Int32))] rfl 184 rfl ?_
          refine own_aload X30 hx (hb hby at_184) rfl rfl 186 rfl ?_
          refine own_iload X30 hx (hb hby at_186) rfl 188 rfl ?_
          refine own_iload X30 hx (hb hby at_188) rfl 190 rfl ?_
          refine own_iloadN X30 hx (hb hby at_190) rfl 191 rfl ?_
          refine own_callS X30 hx hZ hown (own_w hw 2 rfl) (own_w hw 3 rfl) (own_w hw 4 rfl) (own_w hw 5 rfl) (by decide) e30 (rm2 l Z a0 hw [] a7 0 1 v3 [y10, y14, y18, y22] h23 n0 (by decide) (by simp) V23) (by rw [hml]; rfl) pd_0 (argsL := [(.ref a7), (.int (0 : Int32)), (.int (1 : Int32)), (.int v3)]) rfl (rest := []) rfl (hb hby at_191) 0 (Nat.le_of_eq rfl) (by decide) (by decide) (by decide) (by decide) 194 rfl (fun T41 L41 v41 X41 hQ41 => ?_)
          obtain ⟨rfl, N41, e41⟩ := hQ41
          have N42 := Fr.app N31 N41
          show own_Go p e below G (T41.setTop (mkF m 194 #[.val (.int v0), .val (.int v1), .val (.int v2), .val (.int v3), .val (.ref a7), .val (.int (0 : Int32)), .val (.int (1 : Int32)), .val (.int (1 : Int32)), .val (.int (1 : Int32)), .val (.int (1 : Int32))] [(.int (own_isd (own_slice [y10, y14, y18, y22] 0 1) v3))]))
          refine own_iload X41 hx (hb hby at_194) rfl 196 rfl ?_
          refine own_icmpN X41 hx (hb hby at_196) (teq (by rw [show own_slice [y10, y14, y18, y22] 0 1 = [y10] from rfl]; simp [own_isd, c32, c38])).2 199 rfl ?_
          refine own_iconst X41 hx (hb hby at_199) (1 : Int32) rfl 200 rfl ?_
          refine own_goto X41 hx (hb hby at_200) 204 ⟨by decide, by decide⟩ ?_
          refine own_nreturn X41 hx Bd.notSynchronized hG Bd.returns (by simp) (hb hby at_204) (by decide) (by decide) ?_
          rw [e41]
          exact ⟨rfl, N42⟩
    ·
      refine own_iadd X23 hx (hb hby at_57) 58 rfl ?_
      show own_Go p e below G (T23.setTop (mkF m 58 #[.val (.int v0), .val (.int v1), .val (.int v2), .val (.int v3), .val (.ref a7), .val (.int (0 : Int32)), .unset, .unset, .unset, .unset] [(.int (2 : Int32))]))
      refine own_istore X23 hx (hb hby at_58) #[.val (.int v0), .val (.int v1), .val (.int v2), .val (.int v3), .val (.ref a7), .val (.int (0 : Int32)), .val (.int (2 : Int32)), .unset, .unset, .unset] rfl 60 rfl ?_
      refine own_iload X23 hx (hb hby at_60) rfl 62 rfl ?_
      refine own_iload X23 hx (hb hby at_62) rfl 64 rfl ?_
      refine own_isub X23 hx (hb hby at_64) 65 rfl ?_
      show own_Go p e below G (T23.setTop (mkF m 65 #[.val (.int v0), .val (.int v1), .val (.int v2), .val (.int v3), .val (.ref a7), .val (.int (0 : Int32)), .val (.int (2 : Int32)), .unset, .unset, .unset] [(.int (2 : Int32))]))
      refine own_istore X23 hx (hb hby at_65) #[.val (.int v0), .val (.int v1), .val (.int v2), .val (.int v3), .val (.ref a7), .val (.int (0 : Int32)), .val (.int (2 : Int32)), .val (.int (2 : Int32)), .unset, .unset] rfl 67 rfl ?_
      refine own_iload X23 hx (hb hby at_67) rfl 69 rfl ?_
      refine own_ifN X23 hx (hb hby at_69) ((if0 _ _).trans (flt (by decide)).2.2.1) 72 rfl ?_
      refine own_iload X23 hx (hb hby at_72) rfl 74 rfl ?_
      refine own_ifN X23 hx (hb hby at_74) ((if0 _ _).trans (tlt (by decide)).2.2.2) 77 rfl ?_
      refine own_aload X23 hx (hb hby at_77) rfl rfl 79 rfl ?_
      refine own_iconst X23 hx (hb hby at_79) (0 : Int32) rfl 80 rfl ?_
      refine own_baload X23 hx hZ e23 V23 0 rfl y10 rfl (hb hby at_80) 81 rfl ?_
      refine own_callS X23 hx hZ hown (own_w hw 6 rfl) (own_w hw 7 rfl) (own_w hw 8 rfl) (own_w hw 9 rfl) (by decide) e23 (rm1 l Z a0 hw [] y10 h23 n0) (by rw [hml]; rfl) pd_1 (argsL := [(.int y10)]) rfl (rest := []) rfl (hb hby at_81) 0 (Nat.le_of_eq rfl) (by decide) (by decide) (by decide) (by decide) 84 rfl (fun T43 L43 v43 X43 hQ43 => ?_)
      obtain ⟨rfl, N43, e43⟩ := hQ43
      have N44 := Fr.app N24 N43
      show own_Go p e below G (T43.setTop (mkF m 84 #[.val (.int v0), .val (.int v1), .val (.int v2), .val (.int v3), .val (.ref a7), .val (.int (0 : Int32)), .val (.int (2 : Int32)), .val (.int (2 : Int32)), .unset, .unset] [(.int (own_dig y10))]))
      by_cases c45 : (own_dig y10) = (0 : Int32)
      ·
        refine own_ifY X43 hx (hb hby at_84) ((if0 _ _).trans (teq c45).1) 157 ⟨by decide, by decide⟩ ?_
        refine own_iconst X43 hx (hb hby at_157) (0 : Int32) rfl 158 rfl ?_
        refine own_istore X43 hx (hb hby at_158) #[.val (.int v0), .val (.int v1), .val (.int v2), .val (.int v3), .val (.ref a7), .val (.int (0 : Int32)), .val (.int (2 : Int32)), .val (.int (2 : Int32)), .val (.int (0 : Int32)), .unset] rfl 160 rfl ?_
        refine own_iload X43 hx (hb hby at_160) rfl 162 rfl ?_
        refine own_iconst X43 hx (hb hby at_162) (1 : Int32) rfl 163 rfl ?_
        refine own_icmpN X43 hx (hb hby at_163) (flt (by decide)).1 166 rfl ?_
        refine own_iload X43 hx (hb hby at_166) rfl 168 rfl ?_
        refine own_iloadN X43 hx (hb hby at_168) rfl 169 rfl ?_
        by_cases c46 : v3 < (2 : Int32)
        ·
          refine own_icmpY X43 hx (hb hby at_169) (tlt c46).2.2.1 181 ⟨by decide, by decide⟩ ?_
          refine own_iconst X43 hx (hb hby at_181) (0 : Int32) rfl 182 rfl ?_
          refine own_istore X43 hx (hb hby at_182) #[.val (.int v0), .val (.int v1), .val (.int v2), .val (.int v3), .val (.ref a7), .val (.int (0 : Int32)), .val (.int (2 : Int32)), .val (.int (2 : Int32)), .val (.int (0 : Int32)), .val (.int (0 : Int32))] rfl 184 rfl ?_
          refine own_aload X43 hx (hb hby at_184) rfl rfl 186 rfl ?_
          refine own_iload X43 hx (hb hby at_186) rfl 188 rfl ?_
          refine own_iload X43 hx (hb hby at_188) rfl 190 rfl ?_
          refine own_iloadN X43 hx (hb hby at_190) rfl 191 rfl ?_
          refine own_callS X43 hx hZ hown (own_w hw 2 rfl) (own_w hw 3 rfl) (own_w hw 4 rfl) (own_w hw 5 rfl) (by decide) e43 (rm2 l Z a0 hw [] a7 0 2 v3 [y10, y14, y18, y22] h23 n0 (by decide) (by simp) V23) (by rw [hml]; rfl) pd_0 (argsL := [(.ref a7), (.int (0 : Int32)), (.int (2 : Int32)), (.int v3)]) rfl (rest := []) rfl (hb hby at_191) 0 (Nat.le_of_eq rfl) (by decide) (by decide) (by decide) (by decide) 194 rfl (fun T47 L47 v47 X47 hQ47 => ?_)
          obtain ⟨rfl, N47, e47⟩ := hQ47
          have N48 := Fr.app N44 N47
          show own_Go p e below G (T47.setTop (mkF m 194 #[.val (.int v0), .val (.int v1), .val (.int v2), .val (.int v3), .val (.ref a7), .val (.int (0 : Int32)), .val (.int (2 : Int32)), .val (.int (2 : Int32)), .val (.int (0 : Int32)), .val (.int (0 : Int32))] [(.int (own_isd (own_slice [y10, y14, y18, y22] 0 2) v3))]))
          refine own_iload X47 hx (hb hby at_194) rfl 196 rfl ?_
          refine own_icmpN X47 hx (hb hby at_196) (teq (by rw [show own_slice [y10, y14, y18, y22] 0 2 = [y10, y14] from rfl]; simp [own_isd, c45, c46])).2 199 rfl ?_
          refine own_iconst X47 hx (hb hby at_199) (1 : Int32) rfl 200 rfl ?_
          refine own_goto X47 hx (hb hby at_200) 204 ⟨by decide, by decide⟩ ?_
          refine own_nreturn X47 hx Bd.notSynchronized hG Bd.returns (by simp) (hb hby at_204) (by decide) (by decide) ?_
          rw [e47]
          exact ⟨rfl, N48⟩
        ·
          refine own_icmpN X43 hx (hb hby at_169) (flt c46).2.2.1 172 rfl ?_
          refine own_iload X43 hx (hb hby at_172) rfl 174 rfl ?_
          refine own_ifY X43 hx (hb hby at_174) ((if0 _ _).trans (teq (by decide)).1) 181 ⟨by decide, by decide⟩ ?_
          refine own_iconst X43 hx (hb hby at_181) (0 : Int32) rfl 182 rfl ?_
          refine own_istore X43 hx (hb hby at_182) #[.val (.int v0), .val (.int v1), .val (.int v2), .val (.int v3), .val (.ref a7), .val (.int (0 : Int32)), .val (.int (2 : Int32)), .val (.int (2 : Int32)), .val (.int (0 : Int32)), .val (.int (0 : Int32))] rfl 184 rfl ?_
          refine own_aload X43 hx (hb hby at_184) rfl rfl 186 rfl ?_
          refine own_iload X43 hx (hb hby at_186) rfl 188 rfl ?_
          refine own_iload X43 hx (hb hby at_188) rfl 190 rfl ?_
          refine own_iloadN X43 hx (hb hby at_190) rfl 191 rfl ?_
          refine own_callS X43 hx hZ hown (own_w hw 2 rfl) (own_w hw 3 rfl) (own_w hw 4 rfl) (own_w hw 5 rfl) (by decide) e43 (rm2 l Z a0 hw [] a7 0 2 v3 [y10, y14, y18, y22] h23 n0 (by decide) (by simp) V23) (by rw [hml]; rfl) pd_0 (argsL := [(.ref a7), (.int (0 : Int32)), (.int (2 : Int32)), (.int v3)]) rfl (rest := []) rfl (hb hby at_191) 0 (Nat.le_of_eq rfl) (by decide) (by decide) (by decide) (by decide) 194 rfl (fun T49 L49 v49 X49 hQ49 => ?_)
          obtain ⟨rfl, N49, e49⟩ := hQ49
          have N50 := Fr.app N44 N49
          show own_Go p e below G (T49.setTop (mkF m 194 #[.val (.int v0), .val (.int v1), .val (.int v2), .val (.int v3), .val (.ref a7), .val (.int (0 : Int32)), .val (.int (2 : Int32)), .val (.int (2 : Int32)), .val (.int (0 : Int32)), .val (.int (0 : Int32))] [(.int (own_isd (own_slice [y10, y14, y18, y22] 0 2) v3))]))
          refine own_iload X49 hx (hb hby at_194) rfl 196 rfl ?_
          refine own_icmpN X49 hx (hb hby at_196) (teq (by rw [show own_slice [y10, y14, y18, y22] 0 2 = [y10, y14] from rfl]; simp [own_isd, c45, c46])).2 199 rfl ?_
          refine own_iconst X49 hx (hb hby at_199) (1 : Int32) rfl 200 rfl ?_
          refine own_goto X49 hx (hb hby at_200) 204 ⟨by decide, by decide⟩ ?_
          refine own_nreturn X49 hx Bd.notSynchronized hG Bd.returns (by simp) (hb hby at_204) (by decide) (by decide) ?_
          rw [e49]
          exact ⟨rfl, N50⟩
      ·
        refine own_ifN X43 hx (hb hby at_84) ((if0 _ _).trans (feq c45).1) 87 rfl ?_
        refine own_iload X43 hx (hb hby at_87) rfl 89 rfl ?_
        refine own_iconst X43 hx (hb hby at_89) (1 : Int32) rfl 90 rfl ?_
        refine own_icmpN X43 hx (hb hby at_90) (flt (by decide)).2.2.1 93 rfl ?_
        refine own_iload X43 hx (hb hby at_93) rfl 95 rfl ?_
        refine own_iconst X43 hx (hb hby at_95) (1 : Int32) rfl 96 rfl ?_
        refine own_icmpN X43 hx (hb hby at_96) (tlt (by decide)).2.2.2 99 rfl ?_
        refine own_aload X43 hx (hb hby at_99) rfl rfl 101 rfl ?_
        refine own_iconst X43 hx (hb hby at_101) (1 : Int32) rfl 102 rfl ?_
        refine own_baload X43 hx hZ e43 V23 1 rfl y14 rfl (hb hby at_102) 103 rfl ?_
        refine own_callS X43 hx hZ hown (own_w hw 6 rfl) (own_w hw 7 rfl) (own_w hw 8 rfl) (own_w hw 9 rfl) (by decide) e43 (rm1 l Z a0 hw [] y14 h23 n0) (by rw [hml]; rfl) pd_1 (argsL := [(.int y14)]) rfl (rest := []) rfl (hb hby at_103) 0 (Nat.le_of_eq rfl) (by decide) (by decide) (by decide) (by decide) 106 rfl (fun T51 L51 v51 X51 hQ51 => ?_)
        obtain ⟨rfl, N51, e51⟩ := hQ51
        have N52 := Fr.app N44 N51
        show own_Go p e below G (T51.setTop (mkF m 106 #[.val (.int v0), .val (.int v1), .val (.int v2), .val (.int v3), .val (.ref a7), .val (.int (0 : Int32)), .val (.int (2 : Int32)), .val (.int (2 : Int32)), .unset, .unset] [(.int (own_dig y14))]))
        by_cases c53 : (own_dig y14) = (0 : Int32)
        ·
          refine own_ifY X51 hx (hb hby at_106) ((if0 _ _).trans (teq c53).1) 157 ⟨by decide, by decide⟩ ?_
          refine own_iconst X51 hx (hb hby at_157) (0 : Int32) rfl 158 rfl ?_
          refine own_istore X51 hx (hb hby at_158) #[.val (.int v0), .val (.int v1), .val (.int v2), .val (.int v3), .val (.ref a7), .val (.int (0 : Int32)), .val (.int (2 : Int32)), .val (.int (2 : Int32)), .val (.int (0 : Int32)), .unset] rfl 160 rfl ?_
          refine own_iload X51 hx (hb hby at_160) rfl 162 rfl ?_
          refine own_iconst X51 hx (hb hby at_162) (1 : Int32) rfl 163 rfl ?_
          refine own_icmpN X51 hx (hb hby at_163) (flt (by decide)).1 166 rfl ?_
          refine own_iload X51 hx (hb hby at_166) rfl 168 rfl ?_
          refine own_iloadN X51 hx (hb hby at_168) rfl 169 rfl ?_
          by_cases c54 : v3 < (2 : Int32)
          ·
            refine own_icmpY X51 hx (hb hby at_169) (tlt c54).2.2.1 181 ⟨by decide, by decide⟩ ?_
            refine own_iconst X51 hx (hb hby at_181) (0 : Int32) rfl 182 rfl ?_
            refine own_istore X51 hx (hb hby at_182) #[.val (.int v0), .val (.int v1), .val (.int v2), .val (.int v3), .val (.ref a7), .val (.int (0 : Int32)), .val (.int (2 : Int32)), .val (.int (2 : Int32)), .val (.int (0 : Int32)), .val (.int (0 : Int32))] rfl 184 rfl ?_
            refine own_aload X51 hx (hb hby at_184) rfl rfl 186 rfl ?_
            refine own_iload X51 hx (hb hby at_186) rfl 188 rfl ?_
            refine own_iload X51 hx (hb hby at_188) rfl 190 rfl ?_
            refine own_iloadN X51 hx (hb hby at_190) rfl 191 rfl ?_
            refine own_callS X51 hx hZ hown (own_w hw 2 rfl) (own_w hw 3 rfl) (own_w hw 4 rfl) (own_w hw 5 rfl) (by decide) e51 (rm2 l Z a0 hw [] a7 0 2 v3 [y10, y14, y18, y22] h23 n0 (by decide) (by simp) V23) (by rw [hml]; rfl) pd_0 (argsL := [(.ref a7), (.int (0 : Int32)), (.int (2 : Int32)), (.int v3)]) rfl (rest := []) rfl (hb hby at_191) 0 (Nat.le_of_eq rfl) (by decide) (by decide) (by decide) (by decide) 194 rfl (fun T55 L55 v55 X55 hQ55 => ?_)
            obtain ⟨rfl, N55, e55⟩ := hQ55
            have N56 := Fr.app N52 N55
            show own_Go p e below G (T55.setTop (mkF m 194 #[.val (.int v0), .val (.int v1), .val (.int v2), .val (.int v3), .val (.ref a7), .val (.int (0 : Int32)), .val (.int (2 : Int32)), .val (.int (2 : Int32)), .val (.int (0 : Int32)), .val (.int (0 : Int32))] [(.int (own_isd (own_slice [y10, y14, y18, y22] 0 2) v3))]))
            refine own_iload X55 hx (hb hby at_194) rfl 196 rfl ?_
            refine own_icmpN X55 hx (hb hby at_196) (teq (by rw [show own_slice [y10, y14, y18, y22] 0 2 = [y10, y14] from rfl]; simp [own_isd, c45, c53, c54])).2 199 rfl ?_
            refine own_iconst X55 hx (hb hby at_199) (1 : Int32) rfl 200 rfl ?_
            refine own_goto X55 hx (hb hby at_200) 204 ⟨by decide, by decide⟩ ?_
            refine own_nreturn X55 hx Bd.notSynchronized hG Bd.returns (by simp) (hb hby at_204) (by decide) (by decide) ?_
            rw [e55]
            exact ⟨rfl, N56⟩
          ·
            refine own_icmpN X51 hx (hb hby at_169) (flt c54).2.2.1 172 rfl ?_
            refine own_iload X51 hx (hb hby at_172) rfl 174 rfl ?_
            refine own_ifY X51 hx (hb hby at_174) ((if0 _ _).trans (teq (by decide)).1) 181 ⟨by decide, by decide⟩ ?_
            refine own_iconst X51 hx (hb hby at_181) (0 : Int32) rfl 182 rfl ?_
            refine own_istore X51 hx (hb hby at_182) #[.val (.int v0), .val (.int v1), .val (.int v2), .val (.int v3), .val (.ref a7), .val (.int (0 : Int32)), .val (.int (2 : Int32)), .val (.int (2 : Int32)), .val (.int (0 : Int32)), .val (.int (0 : Int32))] rfl 184 rfl ?_
            refine own_aload X51 hx (hb hby at_184) rfl rfl 186 rfl ?_
            refine own_iload X51 hx (hb hby at_186) rfl 188 rfl ?_
            refine own_iload X51 hx (hb hby at_188) rfl 190 rfl ?_
            refine own_iloadN X51 hx (hb hby at_190) rfl 191 rfl ?_
            refine own_callS X51 hx hZ hown (own_w hw 2 rfl) (own_w hw 3 rfl) (own_w hw 4 rfl) (own_w hw 5 rfl) (by decide) e51 (rm2 l Z a0 hw [] a7 0 2 v3 [y10, y14, y18, y22] h23 n0 (by decide) (by simp) V23) (by rw [hml]; rfl) pd_0 (argsL := [(.ref a7), (.int (0 : Int32)), (.int (2 : Int32)), (.int v3)]) rfl (rest := []) rfl (hb hby at_191) 0 (Nat.le_of_eq rfl) (by decide) (by decide) (by decide) (by decide) 194 rfl (fun T57 L57 v57 X57 hQ57 => ?_)
            obtain ⟨rfl, N57, e57⟩ := hQ57
            have N58 := Fr.app N52 N57
            show own_Go p e below G (T57.setTop (mkF m 194 #[.val (.int v0), .val (.int v1), .val (.int v2), .val (.int v3), .val (.ref a7), .val (.int (0 : Int32)), .val (.int (2 : Int32)), .val (.int (2 : Int32)), .val (.int (0 : Int32)), .val (.int (0 : Int32))] [(.int (own_isd (own_slice [y10, y14, y18, y22] 0 2) v3))]))
            refine own_iload X57 hx (hb hby at_194) rfl 196 rfl ?_
            refine own_icmpN X57 hx (hb hby at_196) (teq (by rw [show own_slice [y10, y14, y18, y22] 0 2 = [y10, y14] from rfl]; simp [own_isd, c45, c53, c54])).2 199 rfl ?_
            refine own_iconst X57 hx (hb hby at_199) (1 : Int32) rfl 200 rfl ?_
            refine own_goto X57 hx (hb hby at_200) 204 ⟨by decide, by decide⟩ ?_
            refine own_nreturn X57 hx Bd.notSynchronized hG Bd.returns (by simp) (hb hby at_204) (by decide) (by decide) ?_
            rw [e57]
            exact ⟨rfl, N58⟩
        ·
          refine own_ifN X51 hx (hb hby at_106) ((if0 _ _).trans (feq c53).1) 109 rfl ?_
          refine own_iload X51 hx (hb hby at_109) rfl 111 rfl ?_
          refine own_iconst X51 hx (hb hby at_111) (2 : Int32) rfl 112 rfl ?_
          refine own_icmpN X51 hx (hb hby at_112) (flt (by decide)).2.2.1 115 rfl ?_
          refine own_iload X51 hx (hb hby at_115) rfl 117 rfl ?_
          refine own_iconst X51 hx (hb hby at_117) (2 : Int32) rfl 118 rfl ?_
          refine own_icmpY X51 hx (hb hby at_118) (flt (by decide)).2.2.2 131 ⟨by decide, by decide⟩ ?_
          refine own_iload X51 hx (hb hby at_131) rfl 133 rfl ?_
          refine own_iconst X51 hx (hb hby at_133) (3 : Int32) rfl 134 rfl ?_
          refine own_icmpN X51 hx (hb hby at_134) (flt (by decide)).2.2.1 137 rfl ?_
          refine own_iload X51 hx (hb hby at_137) rfl 139 rfl ?_
          refine own_iconst X51 hx (hb hby at_139) (3 : Int32) rfl 140 rfl ?_
          refine own_icmpY X51 hx (hb hby at_140) (flt (by decide)).2.2.2 153 ⟨by decide, by decide⟩ ?_
          refine own_iconst X51 hx (hb hby at_153) (1 : Int32) rfl 154 rfl ?_
          refine own_goto X51 hx (hb hby at_154) 158 ⟨by decide, by decide⟩ ?_
          refine own_istore X51 hx (hb hby at_158) #[.val (.int v0), .val (.int v1), .val (.int v2), .val (.int v3), .val (.ref a7), .val (.int (0 : Int32)), .val (.int (2 : Int32)), .val (.int (2 : Int32)), .val (.int (1 : Int32)), .unset] rfl 160 rfl ?_
          refine own_iload X51 hx (hb hby at_160) rfl 162 rfl ?_
          refine own_iconst X51 hx (hb hby at_162) (1 : Int32) rfl 163 rfl ?_
          refine own_icmpN X51 hx (hb hby at_163) (flt (by decide)).1 166 rfl ?_
          refine own_iload X51 hx (hb hby at_166) rfl 168 rfl ?_
          refine own_iloadN X51 hx (hb hby at_168) rfl 169 rfl ?_
          by_cases c59 : v3 < (2 : Int32)
          ·
            refine own_icmpY X51 hx (hb hby at_169) (tlt c59).2.2.1 181 ⟨by decide, by decide⟩ ?_
            refine own_iconst X51 hx (hb hby at_181) (0 : Int32) rfl 182 rfl ?_
            refine own_istore X51 hx (hb hby at_182) #[.val (.int v0), .val (.int v1), .val (.int v2), .val (.int v3), .val (.ref a7), .val (.int (0 : Int32)), .val (.int (2 : Int32)), .val (.int (2 : Int32)), .val (.int (1 : Int32)), .val (.int (0 : Int32))] rfl 184 rfl ?_
            refine own_aload X51 hx (hb hby at_184) rfl rfl 186 rfl ?_
            refine own_iload X51 hx (hb hby at_186) rfl 188 rfl ?_
            refine own_iload X51 hx (hb hby at_188) rfl 190 rfl ?_
            refine own_iloadN X51 hx (hb hby at_190) rfl 191 rfl ?_
            refine own_callS X51 hx hZ hown (own_w hw 2 rfl) (own_w hw 3 rfl) (own_w hw 4 rfl) (own_w hw 5 rfl) (by decide) e51 (rm2 l Z a0 hw [] a7 0 2 v3 [y10, y14, y18, y22] h23 n0 (by decide) (by simp) V23) (by rw [hml]; rfl) pd_0 (argsL := [(.ref a7), (.int (0 : Int32)), (.int (2 : Int32)), (.int v3)]) rfl (rest := []) rfl (hb hby at_191) 0 (Nat.le_of_eq rfl) (by decide) (by decide) (by decide) (by decide) 194 rfl (fun T60 L60 v60 X60 hQ60 => ?_)
            obtain ⟨rfl, N60, e60⟩ := hQ60
            have N61 := Fr.app N52 N60
            show own_Go p e below G (T60.setTop (mkF m 194 #[.val (.int v0), .val (.int v1), .val (.int v2), .val (.int v3), .val (.ref a7), .val (.int (0 : Int32)), .val (.int (2 : Int32)), .val (.int (2 : Int32)), .val (.int (1 : Int32)), .val (.int (0 : Int32))] [(.int (own_isd (own_slice [y10, y14, y18, y22] 0 2) v3))]))
            refine own_iload X60 hx (hb hby at_194) rfl 196 rfl ?_
            refine own_icmpN X60 hx (hb hby at_196) (teq (by rw [show own_slice [y10, y14, y18, y22] 0 2 = [y10, y14] from rfl]; simp [own_isd, c45, c53, c59])).2 199 rfl ?_
            refine own_iconst X60 hx (hb hby at_199) (1 : Int32) rfl 200 rfl ?_
            refine own_goto X60 hx (hb hby at_200) 204 ⟨by decide, by decide⟩ ?_
            refine own_nreturn X60 hx Bd.notSynchronized hG Bd.returns (by simp) (hb hby at_204) (by decide) (by decide) ?_
            rw [e60]
            exact ⟨rfl, N61⟩
          ·
            refine own_icmpN X51 hx (hb hby at_169) (flt c59).2.2.1 172 rfl ?_
            refine own_iload X51 hx (hb hby at_172) rfl 174 rfl ?_
            refine own_ifN X51 hx (hb hby at_174) ((if0 _ _).trans (feq (by decide)).1) 177 rfl ?_
            refine own_iconst X51 hx (hb hby at_177) (1 : Int32) rfl 178 rfl ?_
            refine own_goto X51 hx (hb hby at_178) 182 ⟨by decide, by decide⟩ ?_
            refine own_istore X51 hx (hb hby at_182) #[.val (.int v0), .val (.int v1), .val (.int v2), .val (.int v3), .val (.ref a7), .val (.int (0 : Int32)), .val (.int (2 : Int32)), .val (.int (2 : Int32)), .val (.int (1 : Int32)), .val (.int (1 : Int32))] rfl 184 rfl ?_
            refine own_aload X51 hx (hb hby at_184) rfl rfl 186 rfl ?_
            refine own_iload X51 hx (hb hby at_186) rfl 188 rfl ?_
            refine own_iload X51 hx (hb hby at_188) rfl 190 rfl ?_
            refine own_iloadN X51 hx (hb hby at_190) rfl 191 rfl ?_
            refine own_callS X51 hx hZ hown (own_w hw 2 rfl) (own_w hw 3 rfl) (own_w hw 4 rfl) (own_w hw 5 rfl) (by decide) e51 (rm2 l Z a0 hw [] a7 0 2 v3 [y10, y14, y18, y22] h23 n0 (by decide) (by simp) V23) (by rw [hml]; rfl) pd_0 (argsL := [(.ref a7), (.int (0 : Int32)), (.int (2 : Int32)), (.int v3)]) rfl (rest := []) rfl (hb hby at_191) 0 (Nat.le_of_eq rfl) (by decide) (by decide) (by decide) (by decide) 194 rfl (fun T62 L62 v62 X62 hQ62 => ?_)
            obtain ⟨rfl, N62, e62⟩ := hQ62
            have N63 := Fr.app N52 N62
            show own_Go p e below G (T62.setTop (mkF m 194 #[.val (.int v0), .val (.int v1), .val (.int v2), .val (.int v3), .val (.ref a7), .val (.int (0 : Int32)), .val (.int (2 : Int32)), .val (.int (2 : Int32)), .val (.int (1 : Int32)), .val (.int (1 : Int32))] [(.int (own_isd (own_slice [y10, y14, y18, y22] 0 2) v3))]))
            refine own_iload X62 hx (hb hby at_194) rfl 196 rfl ?_
            refine own_icmpN X62 hx (hb hby at_196) (teq (by rw [show own_slice [y10, y14, y18, y22] 0 2 = [y10, y14] from rfl]; simp [own_isd, c45, c53, c59])).2 199 rfl ?_
            refine own_iconst X62 hx (hb hby at_199) (1 : Int32) rfl 200 rfl ?_
            refine own_goto X62 hx (hb hby at_200) 204 ⟨by decide, by decide⟩ ?_
            refine own_nreturn X62 hx Bd.notSynchronized hG Bd.returns (by simp) (hb hby at_204) (by decide) (by decide) ?_
            rw [e62]
            exact ⟨rfl, N63⟩
    ·
      refine own_iadd X23 hx (hb hby at_57) 58 rfl ?_
      show own_Go p e below G (T23.setTop (mkF m 58 #[.val (.int v0), .val (.int v1), .val (.int v2), .val (.int v3), .val (.ref a7), .val (.int (0 : Int32)), .unset, .unset, .unset, .unset] [(.int (3 : Int32))]))
      refine own_istore X23 hx (hb hby at_58) #[.val (.int v0), .val (.int v1), .val (.int v2), .val (.int v3), .val (.ref a7), .val (.int (0 : Int32)), .val (.int (3 : Int32)), .unset, .unset, .unset] rfl 60 rfl ?_
      refine own_iload X23 hx (hb hby at_60) rfl 62 rfl ?_
      refine own_iload X23 hx (hb hby at_62) rfl 64 rfl ?_
      refine own_isub X23 hx (hb hby at_64) 65 rfl ?_
      show own_Go p e below G (T23.setTop (mkF m 65 #[.val (.int v0), .val (.int v1), .val (.int v2), .val (.int v3), .val (.ref a7), .val (.int (0 : Int32)), .val (.int (3 : Int32)), .unset, .unset, .unset] [(.int (3 : Int32))]))
      refine own_istore X23 hx (hb hby at_65) #[.val (.int v0), .val (.int v1), .val (.int v2), .val (.int v3), .val (.ref a7), .val (.int (0 : Int32)), .val (.int (3 : Int32)), .val (.int (3 : Int32)), .unset, .unset] rfl 67 rfl ?_
      refine own_iload X23 hx (hb hby at_67) rfl 69 rfl ?_
      refine own_ifN X23 hx (hb hby at_69) ((if0 _ _).trans (flt (by decide)).2.2.1) 72 rfl ?_
      refine own_iload X23 hx (hb hby at_72) rfl 74 rfl ?_
      refine own_ifN X23 hx (hb hby at_74) ((if0 _ _).trans (tlt (by decide)).2.2.2) 77 rfl ?_
      refine own_aload X23 hx (hb hby at_77) rfl rfl 79 rfl ?_
      refine own_iconst X23 hx (hb hby at_79) (0 : Int32) rfl 80 rfl ?_
      refine own_baload X23 hx hZ e23 V23 0 rfl y10 rfl (hb hby at_80) 81 rfl ?_
      refine own_callS X23 hx hZ hown (own_w hw 6 rfl) (own_w hw 7 rfl) (own_w hw 8 rfl) (own_w hw 9 rfl) (by decide) e23 (rm1 l Z a0 hw [] y10 h23 n0) (by rw [hml]; rfl) pd_1 (argsL := [(.int y10)]) rfl (rest := []) rfl (hb hby at_81) 0 (Nat.le_of_eq rfl) (by decide) (by decide) (by decide) (by decide) 84 rfl (fun T64 L64 v64 X64 hQ64 => ?_)
      obtain ⟨rfl, N64, e64⟩ := hQ64
      have N65 := Fr.app N24 N64
      show own_Go p e below G (T64.setTop (mkF m 84 #[.val (.int v0), .val (.int v1), .val (.int v2), .val (.int v3), .val (.ref a7), .val (.int (0 : Int32)), .val (.int (3 : Int32)), .val (.int (3 : Int32)), .unset, .unset] [(.int (own_dig y10))]))
      by_cases c66 : (own_dig y10) = (0 : Int32)
      ·
        refine own_ifY X64 hx (hb hby at_84) ((if0 _ _).trans (teq c66).1) 157 ⟨by decide, by decide⟩ ?_
        refine own_iconst X64 hx (hb hby at_157) (0 : Int32) rfl 158 rfl ?_
        refine own_istore X64 hx (hb hby at_158) #[.val (.int v0), .val (.int v1), .val (.int v2), .val (.int v3), .val (.ref a7), .val (.int (0 : Int32)), .val (.int (3 : Int32)), .val (.int (3 : Int32)), .val (.int (0 : Int32)), .unset] rfl 160 rfl ?_
        refine own_iload X64 hx (hb hby at_160) rfl 162 rfl ?_
        refine own_iconst X64 hx (hb hby at_162) (1 : Int32) rfl 163 rfl ?_
        refine own_icmpN X64 hx (hb hby at_163) (flt (by decide)).1 166 rfl ?_
        refine own_iload X64 hx (hb hby at_166) rfl 168 rfl ?_
        refine own_iloadN X64 hx (hb hby at_168) rfl 169 rfl ?_
        by_cases c67 : v3 < (3 : Int32)
        ·
          refine own_icmpY X64 hx (hb hby at_169) (tlt c67).2.2.1 181 ⟨by decide, by decide⟩ ?_
          refine own_iconst X64 hx (hb hby at_181) (0 : Int32) rfl 182 rfl ?_
          refine own_istore X64 hx (hb hby at_182) #[.val (.int v0), .val (.int v1), .val (.int v2), .val (.int v3), .val (.ref a7), .val (.int (0 : Int32)), .val (.int (3 : Int32)), .val (.int (3 : Int32)), .val (.int (0 : Int32)), .val (.int (0 : Int32))] rfl 184 rfl ?_
          refine own_aload X64 hx (hb hby at_184) rfl rfl 186 rfl ?_
          refine own_iload X64 hx (hb hby at_186) rfl 188 rfl ?_
          refine own_iload X64 hx (hb hby at_188) rfl 190 rfl ?_
          refine own_iloadN X64 hx (hb hby at_190) rfl 191 rfl ?_
          refine own_callS X64 hx hZ hown (own_w hw 2 rfl) (own_w hw 3 rfl) (own_w hw 4 rfl) (own_w hw 5 rfl) (by decide) e64 (rm2 l Z a0 hw [] a7 0 3 v3 [y10, y14, y18, y22] h23 n0 (by decide) (by simp) V23) (by rw [hml]; rfl) pd_0 (argsL := [(.ref a7), (.int (0 : Int32)), (.int (3 : Int32)), (.int v3)]) rfl (rest := []) rfl (hb hby at_191) 0 (Nat.le_of_eq rfl) (by decide) (by decide) (by decide) (by decide) 194 rfl (fun T68 L68 v68 X68 hQ68 => ?_)
          obtain ⟨rfl, N68, e68⟩ := hQ68
          have N69 := Fr.app N65 N68
          show own_Go p e below G (T68.setTop (mkF m 194 #[.val (.int v0), .val (.int v1), .val (.int v2), .val (.int v3), .val (.ref a7), .val (.int (0 : Int32)), .val (.int (3 : Int32)), .val (.int (3 : Int32)), .val (.int (0 : Int32)), .val (.int (0 : Int32))] [(.int (own_isd (own_slice [y10, y14, y18, y22] 0 3) v3))]))
          refine own_iload X68 hx (hb hby at_194) rfl 196 rfl ?_
          refine own_icmpN X68 hx (hb hby at_196) (teq (by rw [show own_slice [y10, y14, y18, y22] 0 3 = [y10, y14, y18] from rfl]; simp [own_isd, c66, c67])).2 199 rfl ?_
          refine own_iconst X68 hx (hb hby at_199) (1 : Int32) rfl 200 rfl ?_
          refine own_goto X68 hx (hb hby at_200) 204 ⟨by decide, by decide⟩ ?_
          refine own_nreturn X68 hx Bd.notSynchronized hG Bd.returns (by simp) (hb hby at_204) (by decide) (by decide) ?_
          rw [e68]
          exact ⟨rfl, N69⟩
        ·
          refine own_icmpN X64 hx (hb hby at_169) (flt c67).2.2.1 172 rfl ?_
          refine own_iload X64 hx (hb hby at_172) rfl 174 rfl ?_
          refine own_ifY X64 hx (hb hby at_174) ((if0 _ _).trans (teq (by decide)).1) 181 ⟨by decide, by decide⟩ ?_
          refine own_iconst X64 hx (hb hby at_181) (0 : Int32) rfl 182 rfl ?_
          refine own_istore X64 hx (hb hby at_182) #[.val (.int v0), .val (.int v1), .val (.int v2), .val (.int v3), .val (.ref a7), .val (.int (0 : Int32)), .val (.int (3 : Int32)), .val (.int (3 : Int32)), .val (.int (0 : Int32)), .val (.int (0 : Int32))] rfl 184 rfl ?_
          refine own_aload X64 hx (hb hby at_184) rfl rfl 186 rfl ?_
          refine own_iload X64 hx (hb hby at_186) rfl 188 rfl ?_
          refine own_iload X64 hx (hb hby at_188) rfl 190 rfl ?_
          refine own_iloadN X64 hx (hb hby at_190) rfl 191 rfl ?_
          refine own_callS X64 hx hZ hown (own_w hw 2 rfl) (own_w hw 3 rfl) (own_w hw 4 rfl) (own_w hw 5 rfl) (by decide) e64 (rm2 l Z a0 hw [] a7 0 3 v3 [y10, y14, y18, y22] h23 n0 (by decide) (by simp) V23) (by rw [hml]; rfl) pd_0 (argsL := [(.ref a7), (.int (0 : Int32)), (.int (3 : Int32)), (.int v3)]) rfl (rest := []) rfl (hb hby at_191) 0 (Nat.le_of_eq rfl) (by decide) (by decide) (by decide) (by decide) 194 rfl (fun T70 L70 v70 X70 hQ70 => ?_)
          obtain ⟨rfl, N70, e70⟩ := hQ70
          have N71 := Fr.app N65 N70
          show own_Go p e below G (T70.setTop (mkF m 194 #[.val (.int v0), .val (.int v1), .val (.int v2), .val (.int v3), .val (.ref a7), .val (.int (0 : Int32)), .val (.int (3 : Int32)), .val (.int (3 : Int32)), .val (.int (0 : Int32)), .val (.int (0 : Int32))] [(.int (own_isd (own_slice [y10, y14, y18, y22] 0 3) v3))]))
          refine own_iload X70 hx (hb hby at_194) rfl 196 rfl ?_
          refine own_icmpN X70 hx (hb hby at_196) (teq (by rw [show own_slice [y10, y14, y18, y22] 0 3 = [y10, y14, y18] from rfl]; simp [own_isd, c66, c67])).2 199 rfl ?_
          refine own_iconst X70 hx (hb hby at_199) (1 : Int32) rfl 200 rfl ?_
          refine own_goto X70 hx (hb hby at_200) 204 ⟨by decide, by decide⟩ ?_
          refine own_nreturn X70 hx Bd.notSynchronized hG Bd.returns (by simp) (hb hby at_204) (by decide) (by decide) ?_
          rw [e70]
          exact ⟨rfl, N71⟩
      ·
        refine own_ifN X64 hx (hb hby at_84) ((if0 _ _).trans (feq c66).1) 87 rfl ?_
        refine own_iload X64 hx (hb hby at_87) rfl 89 rfl ?_
        refine own_iconst X64 hx (hb hby at_89) (1 : Int32) rfl 90 rfl ?_
        refine own_icmpN X64 hx (hb hby at_90) (flt (by decide)).2.2.1 93 rfl ?_
        refine own_iload X64 hx (hb hby at_93) rfl 95 rfl ?_
        refine own_iconst X64 hx (hb hby at_95) (1 : Int32) rfl 96 rfl ?_
        refine own_icmpN X64 hx (hb hby at_96) (tlt (by decide)).2.2.2 99 rfl ?_
        refine own_aload X64 hx (hb hby at_99) rfl rfl 101 rfl ?_
        refine own_iconst X64 hx (hb hby at_101) (1 : Int32) rfl 102 rfl ?_
        refine own_baload X64 hx hZ e64 V23 1 rfl y14 rfl (hb hby at_102) 103 rfl ?_
        refine own_callS X64 hx hZ hown (own_w hw 6 rfl) (own_w hw 7 rfl) (own_w hw 8 rfl) (own_w hw 9 rfl) (by decide) e64 (rm1 l Z a0 hw [] y14 h23 n0) (by rw [hml]; rfl) pd_1 (argsL := [(.int y14)]) rfl (rest := []) rfl (hb hby at_103) 0 (Nat.le_of_eq rfl) (by decide) (by decide) (by decide) (by decide) 106 rfl (fun T72 L72 v72 X72 hQ72 => ?_)
        obtain ⟨rfl, N72, e72⟩ := hQ72
        have N73 := Fr.app N65 N72
        show own_Go p e below G (T72.setTop (mkF m 106 #[.val (.int v0), .val (.int v1), .val (.int v2), .val (.int v3), .val (.ref a7), .val (.int (0 : Int32)), .val (.int (3 : Int32)), .val (.int (3 : Int32)), .unset, .unset] [(.int (own_dig y14))]))
        by_cases c74 : (own_dig y14) = (0 : Int32)
        ·
          refine own_ifY X72 hx (hb hby at_106) ((if0 _ _).trans (teq c74).1) 157 ⟨by decide, by decide⟩ ?_
          refine own_iconst X72 hx (hb hby at_157) (0 : Int32) rfl 158 rfl ?_
          refine own_istore X72 hx (hb hby at_158) #[.val (.int v0), .val (.int v1), .val (.int v2), .val (.int v3), .val (.ref a7), .val (.int (0 : Int32)), .val (.int (3 : Int32)), .val (.int (3 : Int32)), .val (.int (0 : Int32)), .unset] rfl 160 rfl ?_
          refine own_iload X72 hx (hb hby at_160) rfl 162 rfl ?_
          refine own_iconst X72 hx (hb hby at_162) (1 : Int32) rfl 163 rfl ?_
          refine own_icmpN X72 hx (hb hby at_163) (flt (by decide)).1 166 rfl ?_
          refine own_iload X72 hx (hb hby at_166) rfl 168 rfl ?_
          refine own_iloadN X72 hx (hb hby at_168) rfl 169 rfl ?_
          by_cases c75 : v3 < (3 : Int32)
          ·
            refine own_icmpY X72 hx (hb hby at_169) (tlt c75).2.2.1 181 ⟨by decide, by decide⟩ ?_
            refine own_iconst X72 hx (hb hby at_181) (0 : Int32) rfl 182 rfl ?_
            refine own_istore X72 hx (hb hby at_182) #[.val (.int v0), .val (.int v1), .val (.int v2), .val (.int v3), .val (.ref a7), .val (.int (0 : Int32)), .val (.int (3 : Int32)), .val (.int (3 : Int32)), .val (.int (0 : Int32)), .val (.int (0 : Int32))] rfl 184 rfl ?_
            refine own_aload X72 hx (hb hby at_184) rfl rfl 186 rfl ?_
            refine own_iload X72 hx (hb hby at_186) rfl 188 rfl ?_
            refine own_iload X72 hx (hb hby at_188) rfl 190 rfl ?_
            refine own_iloadN X72 hx (hb hby at_190) rfl 191 rfl ?_
            refine own_callS X72 hx hZ hown (own_w hw 2 rfl) (own_w hw 3 rfl) (own_w hw 4 rfl) (own_w hw 5 rfl) (by decide) e72 (rm2 l Z a0 hw [] a7 0 3 v3 [y10, y14, y18, y22] h23 n0 (by decide) (by simp) V23) (by rw [hml]; rfl) pd_0 (argsL := [(.ref a7), (.int (0 : Int32)), (.int (3 : Int32)), (.int v3)]) rfl (rest := []) rfl (hb hby at_191) 0 (Nat.le_of_eq rfl) (by decide) (by decide) (by decide) (by decide) 194 rfl (fun T76 L76 v76 X76 hQ76 => ?_)
            obtain ⟨rfl, N76, e76⟩ := hQ76
            have N77 := Fr.app N73 N76
            show own_Go p e below G (T76.setTop (mkF m 194 #[.val (.int v0), .val (.int v1), .val (.int v2), .val (.int v3), .val (.ref a7), .val (.int (0 : Int32)), .val (.int (3 : Int32)), .val (.int (3 : Int32)), .val (.int (0 : Int32)), .val (.int (0 : Int32))] [(.int (own_isd (own_slice [y10, y14, y18, y22] 0 3) v3))]))
            refine own_iload X76 hx (hb hby at_194) rfl 196 rfl ?_
            refine own_icmpN X76 hx (hb hby at_196) (teq (by rw [show own_slice [y10, y14, y18, y22] 0 3 = [y10, y14, y18] from rfl]; simp [own_isd, c66, c74, c75])).2 199 rfl ?_
            refine own_iconst X76 hx (hb hby at_199) (1 : Int32) rfl 200 rfl ?_
            refine own_goto X76 hx (hb hby at_200) 204 ⟨by decide, by decide⟩ ?_
            refine own_nreturn X76 hx Bd.notSynchronized hG Bd.returns (by simp) (hb hby at_204) (by decide) (by decide) ?_
            rw [e76]
            exact ⟨rfl, N77⟩
          ·
            refine own_icmpN X72 hx (hb hby at_169) (flt c75).2.2.1 172 rfl ?_
            refine own_iload X72 hx (hb hby at_172) rfl 174 rfl ?_
            refine own_ifY X72 hx (hb hby at_174) ((if0 _ _).trans (teq (by decide)).1) 181 ⟨by decide, by decide⟩ ?_
            refine own_iconst X72 hx (hb hby at_181) (0 : Int32) rfl 182 rfl ?_
            refine own_istore X72 hx (hb hby at_182) #[.val (.int v0), .val (.int v1), .val (.int v2), .val (.int v3), .val (.ref a7), .val (.int (0 : Int32)), .val (.int (3 : Int32)), .val (.int (3 : Int32)), .val (.int (0 : Int32)), .val (.int (0 : Int32))] rfl 184 rfl ?_
            refine own_aload X72 hx (hb hby at_184) rfl rfl 186 rfl ?_
            refine own_iload X72 hx (hb hby at_186) rfl 188 rfl ?_
            refine own_iload X72 hx (hb hby at_188) rfl 190 rfl ?_
            refine own_iloadN X72 hx (hb hby at_190) rfl 191 rfl ?_
            refine own_callS X72 hx hZ hown (own_w hw 2 rfl) (own_w hw 3 rfl) (own_w hw 4 rfl) (own_w hw 5 rfl) (by decide) e72 (rm2 l Z a0 hw [] a7 0 3 v3 [y10, y14, y18, y22] h23 n0 (by decide) (by simp) V23) (by rw [hml]; rfl) pd_0 (argsL := [(.ref a7), (.int (0 : Int32)), (.int (3 : Int32)), (.int v3)]) rfl (rest := []) rfl (hb hby at_191) 0 (Nat.le_of_eq rfl) (by decide) (by decide) (by decide) (by decide) 194 rfl (fun T78 L78 v78 X78 hQ78 => ?_)
            obtain ⟨rfl, N78, e78⟩ := hQ78
            have N79 := Fr.app N73 N78
            show own_Go p e below G (T78.setTop (mkF m 194 #[.val (.int v0), .val (.int v1), .val (.int v2), .val (.int v3), .val (.ref a7), .val (.int (0 : Int32)), .val (.int (3 : Int32)), .val (.int (3 : Int32)), .val (.int (0 : Int32)), .val (.int (0 : Int32))] [(.int (own_isd (own_slice [y10, y14, y18, y22] 0 3) v3))]))
            refine own_iload X78 hx (hb hby at_194) rfl 196 rfl ?_
            refine own_icmpN X78 hx (hb hby at_196) (teq (by rw [show own_slice [y10, y14, y18, y22] 0 3 = [y10, y14, y18] from rfl]; simp [own_isd, c66, c74, c75])).2 199 rfl ?_
            refine own_iconst X78 hx (hb hby at_199) (1 : Int32) rfl 200 rfl ?_
            refine own_goto X78 hx (hb hby at_200) 204 ⟨by decide, by decide⟩ ?_
            refine own_nreturn X78 hx Bd.notSynchronized hG Bd.returns (by simp) (hb hby at_204) (by decide) (by decide) ?_
            rw [e78]
            exact ⟨rfl, N79⟩
        ·
          refine own_ifN X72 hx (hb hby at_106) ((if0 _ _).trans (feq c74).1) 109 rfl ?_
          refine own_iload X72 hx (hb hby at_109) rfl 111 rfl ?_
          refine own_iconst X72 hx (hb hby at_111) (2 : Int32) rfl 112 rfl ?_
          refine own_icmpN X72 hx (hb hby at_112) (flt (by decide)).2.2.1 115 rfl ?_
          refine own_iload X72 hx (hb hby at_115) rfl 117 rfl ?_
          refine own_iconst X72 hx (hb hby at_117) (2 : Int32) rfl 118 rfl ?_
          refine own_icmpN X72 hx (hb hby at_118) (tlt (by decide)).2.2.2 121 rfl ?_
          refine own_aload X72 hx (hb hby at_121) rfl rfl 123 rfl ?_
          refine own_iconst X72 hx (hb hby at_123) (2 : Int32) rfl 124 rfl ?_
          refine own_baload X72 hx hZ e72 V23 2 rfl y18 rfl (hb hby at_124) 125 rfl ?_
          refine own_callS X72 hx hZ hown (own_w hw 6 rfl) (own_w hw 7 rfl) (own_w hw 8 rfl) (own_w hw 9 rfl) (by decide) e72 (rm1 l Z a0 hw [] y18 h23 n0) (by rw [hml]; rfl) pd_1 (argsL := [(.int y18)]) rfl (rest := []) rfl (hb hby at_125) 0 (Nat.le_of_eq rfl) (by decide) (by decide) (by decide) (by decide) 128 rfl (fun T80 L80 v80 X80 hQ80 => ?_)
          obtain ⟨rfl, N80, e80⟩ := hQ80
          have N81 := Fr.app N73 N80
          show own_Go p e below G (T80.setTop (mkF m 128 #[.val (.int v0), .val (.int v1), .val (.int v2), .val (.int v3), .val (.ref a7), .val (.int (0 : Int32)), .val (.int (3 : Int32)), .val (.int (3 : Int32)), .unset, .unset] [(.int (own_dig y18))]))
          by_cases c82 : (own_dig y18) = (0 : Int32)
          ·
            refine own_ifY X80 hx (hb hby at_128) ((if0 _ _).trans (teq c82).1) 157 ⟨by decide, by decide⟩ ?_
            refine own_iconst X80 hx (hb hby at_157) (0 : Int32) rfl 158 rfl ?_
            refine own_istore X80 hx (hb hby at_158) #[.val (.int v0), .val (.int v1), .val (.int v2), .val (.int v3), .val (.ref a7), .val (.int (0 : Int32)), .val (.int (3 : Int32)), .val (.int (3 : Int32)), .val (.int (0 : Int32)), .unset] rfl 160 rfl ?_
            refine own_iload X80 hx (hb hby at_160) rfl 162 rfl ?_
            refine own_iconst X80 hx (hb hby at_162) (1 : Int32) rfl 163 rfl ?_
            refine own_icmpN X80 hx (hb hby at_163) (flt (by decide)).1 166 rfl ?_
            refine own_iload X80 hx (hb hby at_166) rfl 168 rfl ?_
            refine own_iloadN X80 hx (hb hby at_168) rfl 169 rfl ?_
            by_cases c83 : v3 < (3 : Int32)
            ·
              refine own_icmpY X80 hx (hb hby at_169) (tlt c83).2.2.1 181 ⟨by decide, by decide⟩ ?_
              refine own_iconst X80 hx (hb hby at_181) (0 : Int32) rfl 182 rfl ?_
              refine own_istore X80 hx (hb hby at_182) #[.val (.int v0), .val (.int v1), .val (.int v2), .val (.int v3), .val (.ref a7), .val (.int (0 : Int32)), .val (.int (3 : Int32)), .val (.int (3 : Int32)), .val (.int (0 : Int32)), .val (.int (0 : Int32))] rfl 184 rfl ?_
              refine own_aload X80 hx (hb hby at_184) rfl rfl 186 rfl ?_
              refine own_iload X80 hx (hb hby at_186) rfl 188 rfl ?_
              refine own_iload X80 hx (hb hby at_188) rfl 190 rfl ?_
              refine own_iloadN X80 hx (hb hby at_190) rfl 191 rfl ?_
              refine own_callS X80 hx hZ hown (own_w hw 2 rfl) (own_w hw 3 rfl) (own_w hw 4 rfl) (own_w hw 5 rfl) (by decide) e80 (rm2 l Z a0 hw [] a7 0 3 v3 [y10, y14, y18, y22] h23 n0 (by decide) (by simp) V23) (by rw [hml]; rfl) pd_0 (argsL := [(.ref a7), (.int (0 : Int32)), (.int (3 : Int32)), (.int v3)]) rfl (rest := []) rfl (hb hby at_191) 0 (Nat.le_of_eq rfl) (by decide) (by decide) (by decide) (by decide) 194 rfl (fun T84 L84 v84 X84 hQ84 => ?_)
              obtain ⟨rfl, N84, e84⟩ := hQ84
              have N85 := Fr.app N81 N84
              show own_Go p e below G (T84.setTop (mkF m 194 #[.val (.int v0), .val (.int v1), .val (.int v2), .val (.int v3), .val (.ref a7), .val (.int (0 : Int32)), .val (.int (3 : Int32)), .val (.int (3 : Int32)), .val (.int (0 : Int32)), .val (.int (0 : Int32))] [(.int (own_isd (own_slice [y10, y14, y18, y22] 0 3) v3))]))
              refine own_iload X84 hx (hb hby at_194) rfl 196 rfl ?_
              refine own_icmpN X84 hx (hb hby at_196) (teq (by rw [show own_slice [y10, y14, y18, y22] 0 3 = [y10, y14, y18] from rfl]; simp [own_isd, c66, c74, c82, c83])).2 199 rfl ?_
              refine own_iconst X84 hx (hb hby at_199) (1 : Int32) rfl 200 rfl ?_
              refine own_goto X84 hx (hb hby at_200) 204 ⟨by decide, by decide⟩ ?_
              refine own_nreturn X84 hx Bd.notSynchronized hG Bd.returns (by simp) (hb hby at_204) (by decide) (by decide) ?_
              rw [e84]
              exact ⟨rfl, N85⟩
            ·
              refine own_icmpN X80 hx (hb hby at_169) (flt c83).2.2.1 172 rfl ?_
              refine own_iload X80 hx (hb hby at_172) rfl 174 rfl ?_
              refine own_ifY X80 hx (hb hby at_174) ((if0 _ _).trans (teq (by decide)).1) 181 ⟨by decide, by decide⟩ ?_
              refine own_iconst X80 hx (hb hby at_181) (0 : Int32) rfl 182 rfl ?_
              refine own_istore X80 hx (hb hby at_182) #[.val (.int v0), .val (.int v1), .val (.int v2), .val (.int v3), .val (.ref a7), .val (.int (0 : Int32)), .val (.int (3 : Int32)), .val (.int (3 : Int32)), .val (.int (0 : Int32)), .val (.int (0 : Int32))] rfl 184 rfl ?_
              refine own_aload X80 hx (hb hby at_184) rfl rfl 186 rfl ?_
              refine own_iload X80 hx (hb hby at_186) rfl 188 rfl ?_
              refine own_iload X80 hx (hb hby at_188) rfl 190 rfl ?_
              refine own_iloadN X80 hx (hb hby at_190) rfl 191 rfl ?_
              refine own_callS X80 hx hZ hown (own_w hw 2 rfl) (own_w hw 3 rfl) (own_w hw 4 rfl) (own_w hw 5 rfl) (by decide) e80 (rm2 l Z a0 hw [] a7 0 3 v3 [y10, y14, y18, y22] h23 n0 (by decide) (by simp) V23) (by rw [hml]; rfl) pd_0 (argsL := [(.ref a7), (.int (0 : Int32)), (.int (3 : Int32)), (.int v3)]) rfl (rest := []) rfl (hb hby at_191) 0 (Nat.le_of_eq rfl) (by decide) (by decide) (by decide) (by decide) 194 rfl (fun T86 L86 v86 X86 hQ86 => ?_)
              obtain ⟨rfl, N86, e86⟩ := hQ86
              have N87 := Fr.app N81 N86
              show own_Go p e below G (T86.setTop (mkF m 194 #[.val (.int v0), .val (.int v1), .val (.int v2), .val (.int v3), .val (.ref a7), .val (.int (0 : Int32)), .val (.int (3 : Int32)), .val (.int (3 : Int32)), .val (.int (0 : Int32)), .val (.int (0 : Int32))] [(.int (own_isd (own_slice [y10, y14, y18, y22] 0 3) v3))]))
              refine own_iload X86 hx (hb hby at_194) rfl 196 rfl ?_
              refine own_icmpN X86 hx (hb hby at_196) (teq (by rw [show own_slice [y10, y14, y18, y22] 0 3 = [y10, y14, y18] from rfl]; simp [own_isd, c66, c74, c82, c83])).2 199 rfl ?_
              refine own_iconst X86 hx (hb hby at_199) (1 : Int32) rfl 200 rfl ?_
              refine own_goto X86 hx (hb hby at_200) 204 ⟨by decide, by decide⟩ ?_
              refine own_nreturn X86 hx Bd.notSynchronized hG Bd.returns (by simp) (hb hby at_204) (by decide) (by decide) ?_
              rw [e86]
              exact ⟨rfl, N87⟩
          ·
            refine own_ifN X80 hx (hb hby at_128) ((if0 _ _).trans (feq c82).1) 131 rfl ?_
            refine own_iload X80 hx (hb hby at_131) rfl 133 rfl ?_
            refine own_iconst X80 hx (hb hby at_133) (3 : Int32) rfl 134 rfl ?_
            refine own_icmpN X80 hx (hb hby at_134) (flt (by decide)).2.2.1 137 rfl ?_
            refine own_iload X80 hx (hb hby at_137) rfl 139 rfl ?_
            refine own_iconst X80 hx (hb hby at_139) (3 : Int32) rfl 140 rfl ?_
            refine own_icmpY X80 hx (hb hby at_140) (flt (by decide)).2.2.2 153 ⟨by decide, by decide⟩ ?_
            refine own_iconst X80 hx (hb hby at_153) (1 : Int32) rfl 154 rfl ?_
            refine own_goto X80 hx (hb hby at_154) 158 ⟨by decide, by decide⟩ ?_
            refine own_istore X80 hx (hb hby at_158) #[.val (.int v0), .val (.int v1), .val (.int v2), .val (.int v3), .val (.ref a7), .val (.int (0 : Int32)), .val (.int (3 : Int32)), .val (.int (3 : Int32)), .val (.int (1 : Int32)), .unset] rfl 160 rfl ?_
            refine own_iload X80 hx (hb hby at_160) rfl 162 rfl ?_
            refine own_iconst X80 hx (hb hby at_162) (1 : Int32) rfl 163 rfl ?_
            refine own_icmpN X80 hx (hb hby at_163) (flt (by decide)).1 166 rfl ?_
            refine own_iload X80 hx (hb hby at_166) rfl 168 rfl ?_
            refine own_iloadN X80 hx (hb hby at_168) rfl 169 rfl ?_
            by_cases c88 : v3 < (3 : Int32)
            ·
              refine own_icmpY X80 hx (hb hby at_169) (tlt c88).2.2.1 181 ⟨by decide, by decide⟩ ?_
              refine own_iconst X80 hx (hb hby at_181) (0 : Int32) rfl 182 rfl ?_
              refine own_istore X80 hx (hb hby at_182) #[.val (.int v0), .val (.int v1), .val (.int v2), .val (.int v3), .val (.ref a7), .val (.int (0 : Int32)), .val (.int (3 : Int32)), .val (.int (3 : Int32)), .val (.int (1 : Int32)), .val (.int (0 : Int32))] rfl 184 rfl ?_
              refine own_aload X80 hx (hb hby at_184) rfl rfl 186 rfl ?_
              refine own_iload X80 hx (hb hby at_186) rfl 188 rfl ?_
              refine own_iload X80 hx (hb hby at_188) rfl 190 rfl ?_
              refine own_iloadN X80 hx (hb hby at_190) rfl 191 rfl ?_
              refine own_callS X80 hx hZ hown (own_w hw 2 rfl) (own_w hw 3 rfl) (own_w hw 4 rfl) (own_w hw 5 rfl) (by decide) e80 (rm2 l Z a0 hw [] a7 0 3 v3 [y10, y14, y18, y22] h23 n0 (by decide) (by simp) V23) (by rw [hml]; rfl) pd_0 (argsL := [(.ref a7), (.int (0 : Int32)), (.int (3 : Int32)), (.int v3)]) rfl (rest := []) rfl (hb hby at_191) 0 (Nat.le_of_eq rfl) (by decide) (by decide) (by decide) (by decide) 194 rfl (fun T89 L89 v89 X89 hQ89 => ?_)
              obtain ⟨rfl, N89, e89⟩ := hQ89
              have N90 := Fr.app N81 N89
              show own_Go p e below G (T89.setTop (mkF m 194 #[.val (.int v0), .val (.int v1), .val (.int v2), .val (.int v3), .val (.ref a7), .val (.int (0 : Int32)), .val (.int (3 : Int32)), .val (.int (3 : Int32)), .val (.int (1 : Int32)), .val (.int (0 : Int32))] [(.int (own_isd (own_slice [y10, y14, y18, y22] 0 3) v3))]))
              refine own_iload X89 hx (hb hby at_194) rfl 196 rfl ?_
              refine own_icmpN X89 hx (hb hby at_196) (teq (by rw [show own_slice [y10, y14, y18, y22] 0 3 = [y10, y14, y18] from rfl]; simp [own_isd, c66, c74, c82, c88])).2 199 rfl ?_
              refine own_iconst X89 hx (hb hby at_199) (1 : Int32) rfl 200 rfl ?_
              refine own_goto X89 hx (hb hby at_200) 204 ⟨by decide, by decide⟩ ?_
              refine own_nreturn X89 hx Bd.notSynchronized hG Bd.returns (by simp) (hb hby at_204) (by decide) (by decide) ?_
              rw [e89]
              exact ⟨rfl, N90⟩
            ·
              refine own_icmpN X80 hx (hb hby at_169) (flt c88).2.2.1 172 rfl ?_
              refine own_iload X80 hx (hb hby at_172) rfl 174 rfl ?_
              refine own_ifN X80 hx (hb hby at_174) ((if0 _ _).trans (feq (by decide)).1) 177 rfl ?_
              refine own_iconst X80 hx (hb hby at_177) (1 : Int32) rfl 178 rfl ?_
              refine own_goto X80 hx (hb hby at_178) 182 ⟨by decide, by decide⟩ ?_
              refine own_istore X80 hx (hb hby at_182) #[.val (.int v0), .val (.int v1), .val (.int v2), .val (.int v3), .val (.ref a7), .val (.int (0 : Int32)), .val (.int (3 : Int32)), .val (.int (3 : Int32)), .val (.int (1 : Int32)), .val (.int (1 : Int32))] rfl 184 rfl ?_
              refine own_aload X80 hx (hb hby at_184) rfl rfl 186 rfl ?_
              refine own_iload X80 hx (hb hby at_186) rfl 188 rfl ?_
              refine own_iload X80 hx (hb hby at_188) rfl 190 rfl ?_
              refine own_iloadN X80 hx (hb hby at_190) rfl 191 rfl ?_
              refine own_callS X80 hx hZ hown (own_w hw 2 rfl) (own_w hw 3 rfl) (own_w hw 4 rfl) (own_w hw 5 rfl) (by decide) e80 (rm2 l Z a0 hw [] a7 0 3 v3 [y10, y14, y18, y22] h23 n0 (by decide) (by simp) V23) (by rw [hml]; rfl) pd_0 (argsL := [(.ref a7), (.int (0 : Int32)), (.int (3 : Int32)), (.int v3)]) rfl (rest := []) rfl (hb hby at_191) 0 (Nat.le_of_eq rfl) (by decide) (by decide) (by decide) (by decide) 194 rfl (fun T91 L91 v91 X91 hQ91 => ?_)
              obtain ⟨rfl, N91, e91⟩ := hQ91
              have N92 := Fr.app N81 N91
              show own_Go p e below G (T91.setTop (mkF m 194 #[.val (.int v0), .val (.int v1), .val (.int v2), .val (.int v3), .val (.ref a7), .val (.int (0 : Int32)), .val (.int (3 : Int32)), .val (.int (3 : Int32)), .val (.int (1 : Int32)), .val (.int (1 : Int32))] [(.int (own_isd (own_slice [y10, y14, y18, y22] 0 3) v3))]))
              refine own_iload X91 hx (hb hby at_194) rfl 196 rfl ?_
              refine own_icmpN X91 hx (hb hby at_196) (teq (by rw [show own_slice [y10, y14, y18, y22] 0 3 = [y10, y14, y18] from rfl]; simp [own_isd, c66, c74, c82, c88])).2 199 rfl ?_
              refine own_iconst X91 hx (hb hby at_199) (1 : Int32) rfl 200 rfl ?_
              refine own_goto X91 hx (hb hby at_200) 204 ⟨by decide, by decide⟩ ?_
              refine own_nreturn X91 hx Bd.notSynchronized hG Bd.returns (by simp) (hb hby at_204) (by decide) (by decide) ?_
              rw [e91]
              exact ⟨rfl, N92⟩
    ·
      refine own_iadd X23 hx (hb hby at_57) 58 rfl ?_
      show own_Go p e below G (T23.setTop (mkF m 58 #[.val (.int v0), .val (.int v1), .val (.int v2), .val (.int v3), .val (.ref a7), .val (.int (0 : Int32)), .unset, .unset, .unset, .unset] [(.int (4 : Int32))]))
      refine own_istore X23 hx (hb hby at_58) #[.val (.int v0), .val (.int v1), .val (.int v2), .val (.int v3), .val (.ref a7), .val (.int (0 : Int32)), .val (.int (4 : Int32)), .unset, .unset, .unset] rfl 60 rfl ?_
      refine own_iload X23 hx (hb hby at_60) rfl 62 rfl ?_
      refine own_iload X23 hx (hb hby at_62) rfl 64 rfl ?_
      refine own_isub X23 hx (hb hby at_64) 65 rfl ?_
      show own_Go p e below G (T23.setTop (mkF m 65 #[.val (.int v0), .val (.int v1), .val (.int v2), .val (.int v3), .val (.ref a7), .val (.int (0 : Int32)), .val (.int (4 : Int32)), .unset, .unset, .unset] [(.int (4 : Int32))]))
      refine own_istore X23 hx (hb hby at_65) #[.val (.int v0), .val (.int v1), .val (.int v2), .val (.int v3), .val (.ref a7), .val (.int (0 : Int32)), .val (.int (4 : Int32)), .val (.int (4 : Int32)), .unset, .unset] rfl 67 rfl ?_
      refine own_iload X23 hx (hb hby at_67) rfl 69 rfl ?_
      refine own_ifN X23 hx (hb hby at_69) ((if0 _ _).trans (flt (by decide)).2.2.1) 72 rfl ?_
      refine own_iload X23 hx (hb hby at_72) rfl 74 rfl ?_
      refine own_ifN X23 hx (hb hby at_74) ((if0 _ _).trans (tlt (by decide)).2.2.2) 77 rfl ?_
      refine own_aload X23 hx (hb hby at_77) rfl rfl 79 rfl ?_
      refine own_iconst X23 hx (hb hby at_79) (0 : Int32) rfl 80 rfl ?_
      refine own_baload X23 hx hZ e23 V23 0 rfl y10 rfl (hb hby at_80) 81 rfl ?_
      refine own_callS X23 hx hZ hown (own_w hw 6 rfl) (own_w hw 7 rfl) (own_w hw 8 rfl) (own_w hw 9 rfl) (by decide) e23 (rm1 l Z a0 hw [] y10 h23 n0) (by rw [hml]; rfl) pd_1 (argsL := [(.int y10)]) rfl (rest := []) rfl (hb hby at_81) 0 (Nat.le_of_eq rfl) (by decide) (by decide) (by decide) (by decide) 84 rfl (fun T93 L93 v93 X93 hQ93 => ?_)
      obtain ⟨rfl, N93, e93⟩ := hQ93
      have N94 := Fr.app N24 N93
      show own_Go p e below G (T93.setTop (mkF m 84 #[.val (.int v0), .val (.int v1), .val (.int v2), .val (.int v3), .val (.ref a7), .val (.int (0 : Int32)), .val (.int (4 : Int32)), .val (.int (4 : Int32)), .unset, .unset] [(.int (own_dig y10))]))
      by_cases c95 : (own_dig y10) = (0 : Int32)
      ·
        refine own_ifY X93 hx (hb hby at_84) ((if0 _ _).trans (teq c95).1) 157 ⟨by decide, by decide⟩ ?_
        refine own_iconst X93 hx (hb hby at_157) (0 : Int32) rfl 158 rfl ?_
        refine own_istore X93 hx (hb hby at_158) #[.val (.int v0), .val (.int v1), .val (.int v2), .val (.int v3), .val (.ref a7), .val (.int (0 : Int32)), .val (.int (4 : Int32)), .val (.int (4 : Int32)), .val (.int (0 : Int32)), .unset] rfl 160 rfl ?_
        refine own_iload X93 hx (hb hby at_160) rfl 162 rfl ?_
        refine own_iconst X93 hx (hb hby at_162) (1 : Int32) rfl 163 rfl ?_
        refine own_icmpN X93 hx (hb hby at_163) (flt (by decide)).1 166 rfl ?_
        refine own_iload X93 hx (hb hby at_166) rfl 168 rfl ?_
        refine own_iloadN X93 hx (hb hby at_168) rfl 169 rfl ?_
        by_cases c96 : v3 < (4 : Int32)
        ·
          refine own_icmpY X93 hx (hb hby at_169) (tlt c96).2.2.1 181 ⟨by decide, by decide⟩ ?_
          refine own_iconst X93 hx (hb hby at_181) (0 : Int32) rfl 182 rfl ?_
          refine own_istore X93 hx (hb hby at_182) #[.val (.int v0), .val (.int v1), .val (.int v2), .val (.int v3), .val (.ref a7), .val (.int (0 : Int32)), .val (.int (4 : Int32)), .val (.int (4 : Int32)), .val (.int (0 : Int32)), .val (.int (0 : Int32))] rfl 184 rfl ?_
          refine own_aload X93 hx (hb hby at_184) rfl rfl 186 rfl ?_
          refine own_iload X93 hx (hb hby at_186) rfl 188 rfl ?_
          refine own_iload X93 hx (hb hby at_188) rfl 190 rfl ?_
          refine own_iloadN X93 hx (hb hby at_190) rfl 191 rfl ?_
          refine own_callS X93 hx hZ hown (own_w hw 2 rfl) (own_w hw 3 rfl) (own_w hw 4 rfl) (own_w hw 5 rfl) (by decide) e93 (rm2 l Z a0 hw [] a7 0 4 v3 [y10, y14, y18, y22] h23 n0 (by decide) (by simp) V23) (by rw [hml]; rfl) pd_0 (argsL := [(.ref a7), (.int (0 : Int32)), (.int (4 : Int32)), (.int v3)]) rfl (rest := []) rfl (hb hby at_191) 0 (Nat.le_of_eq rfl) (by decide) (by decide) (by decide) (by decide) 194 rfl (fun T97 L97 v97 X97 hQ97 => ?_)
          obtain ⟨rfl, N97, e97⟩ := hQ97
          have N98 := Fr.app N94 N97
          show own_Go p e below G (T97.setTop (mkF m 194 #[.val (.int v0), .val (.int v1), .val (.int v2), .val (.int v3), .val (.ref a7), .val (.int (0 : Int32)), .val (.int (4 : Int32)), .val (.int (4 : Int32)), .val (.int (0 : Int32)), .val (.int (0 : Int32))] [(.int (own_isd (own_slice [y10, y14, y18, y22] 0 4) v3))]))
          refine own_iload X97 hx (hb hby at_194) rfl 196 rfl ?_
          refine own_icmpN X97 hx (hb hby at_196) (teq (by rw [show own_slice [y10, y14, y18, y22] 0 4 = [y10, y14, y18, y22] from rfl]; simp [own_isd, c95, c96])).2 199 rfl ?_
          refine own_iconst X97 hx (hb hby at_199) (1 : Int32) rfl 200 rfl ?_
          refine own_goto X97 hx (hb hby at_200) 204 ⟨by decide, by decide⟩ ?_
          refine own_nreturn X97 hx Bd.notSynchronized hG Bd.returns (by simp) (hb hby at_204) (by decide) (by decide) ?_
          rw [e97]
          exact ⟨rfl, N98⟩
        ·
          refine own_icmpN X93 hx (hb hby at_169) (flt c96).2.2.1 172 rfl ?_
          refine own_iload X93 hx (hb hby at_172) rfl 174 rfl ?_
          refine own_ifY X93 hx (hb hby at_174) ((if0 _ _).trans (teq (by decide)).1) 181 ⟨by decide, by decide⟩ ?_
          refine own_iconst X93 hx (hb hby at_181) (0 : Int32) rfl 182 rfl ?_
          refine own_istore X93 hx (hb hby at_182) #[.val (.int v0), .val (.int v1), .val (.int v2), .val (.int v3), .val (.ref a7), .val (.int (0 : Int32)), .val (.int (4 : Int32)), .val (.int (4 : Int32)), .val (.int (0 : Int32)), .val (.int (0 : Int32))] rfl 184 rfl ?_
          refine own_aload X93 hx (hb hby at_184) rfl rfl 186 rfl ?_
          refine own_iload X93 hx (hb hby at_186) rfl 188 rfl ?_
          refine own_iload X93 hx (hb hby at_188) rfl 190 rfl ?_
          refine own_iloadN X93 hx (hb hby at_190) rfl 191 rfl ?_
          refine own_callS X93 hx hZ hown (own_w hw 2 rfl) (own_w hw 3 rfl) (own_w hw 4 rfl) (own_w hw 5 rfl) (by decide) e93 (rm2 l Z a0 hw [] a7 0 4 v3 [y10, y14, y18, y22] h23 n0 (by decide) (by simp) V23) (by rw [hml]; rfl) pd_0 (argsL := [(.ref a7), (.int (0 : Int32)), (.int (4 : Int32)), (.int v3)]) rfl (rest := []) rfl (hb hby at_191) 0 (Nat.le_of_eq rfl) (by decide) (by decide) (by decide) (by decide) 194 rfl (fun T99 L99 v99 X99 hQ99 => ?_)
          obtain ⟨rfl, N99, e99⟩ := hQ99
          have N100 := Fr.app N94 N99
          show own_Go p e below G (T99.setTop (mkF m 194 #[.val (.int v0), .val (.int v1), .val (.int v2), .val (.int v3), .val (.ref a7), .val (.int (0 : Int32)), .val (.int (4 : Int32)), .val (.int (4 : Int32)), .val (.int (0 : Int32)), .val (.int (0 : Int32))] [(.int (own_isd (own_slice [y10, y14, y18, y22] 0 4) v3))]))
          refine own_iload X99 hx (hb hby at_194) rfl 196 rfl ?_
          refine own_icmpN X99 hx (hb hby at_196) (teq (by rw [show own_slice [y10, y14, y18, y22] 0 4 = [y10, y14, y18, y22] from rfl]; simp [own_isd, c95, c96])).2 199 rfl ?_
          refine own_iconst X99 hx (hb hby at_199) (1 : Int32) rfl 200 rfl ?_
          refine own_goto X99 hx (hb hby at_200) 204 ⟨by decide, by decide⟩ ?_
          refine own_nreturn X99 hx Bd.notSynchronized hG Bd.returns (by simp) (hb hby at_204) (by decide) (by decide) ?_
          rw [e99]
          exact ⟨rfl, N100⟩
      ·
        refine own_ifN X93 hx (hb hby at_84) ((if0 _ _).trans (feq c95).1) 87 rfl ?_
        refine own_iload X93 hx (hb hby at_87) rfl 89 rfl ?_
        refine own_iconst X93 hx (hb hby at_89) (1 : Int32) rfl 90 rfl ?_
        refine own_icmpN X93 hx (hb hby at_90) (flt (by decide)).2.2.1 93 rfl ?_
        refine own_iload X93 hx (hb hby at_93) rfl 95 rfl ?_
        refine own_iconst X93 hx (hb hby at_95) (1 : Int32) rfl 96 rfl ?_
        refine own_icmpN X93 hx (hb hby at_96) (tlt (by decide)).2.2.2 99 rfl ?_
        refine own_aload X93 hx (hb hby at_99) rfl rfl 101 rfl ?_
        refine own_iconst X93 hx (hb hby at_101) (1 : Int32) rfl 102 rfl ?_
        refine own_baload X93 hx hZ e93 V23 1 rfl y14 rfl (hb hby at_102) 103 rfl ?_
        refine own_callS X93 hx hZ hown (own_w hw 6 rfl) (own_w hw 7 rfl) (own_w hw 8 rfl) (own_w hw 9 rfl) (by decide) e93 (rm1 l Z a0 hw [] y14 h23 n0) (by rw [hml]; rfl) pd_1 (argsL := [(.int y14)]) rfl (rest := []) rfl (hb hby at_103) 0 (Nat.le_of_eq rfl) (by decide) (by decide) (by decide) (by decide) 106 rfl (fun T101 L101 v101 X101 hQ101 => ?_)
        obtain ⟨rfl, N101, e101⟩ := hQ101
        have N102 := Fr.app N94 N101
        show own_Go p e below G (T101.setTop (mkF m 106 #[.val (.int v0), .val (.int v1), .val (.int v2), .val (.int v3), .val (.ref a7), .val (.int (0 : Int32)), .val (.int (4 : Int32)), .val (.int (4 : Int32)), .unset, .unset] [(.int (own_dig y14))]))
        by_cases c103 : (own_dig y14) = (0 : Int32)
        ·
          refine own_ifY X101 hx (hb hby at_106) ((if0 _ _).trans (teq c103).1) 157 ⟨by decide, by decide⟩ ?_
          refine own_iconst X101 hx (hb hby at_157) (0 : Int32) rfl 158 rfl ?_
          refine own_istore X101 hx (hb hby at_158) #[.val (.int v0), .val (.int v1), .val (.int v2), .val (.int v3), .val (.ref a7), .val (.int (0 : Int32)), .val (.int (4 : Int32)), .val (.int (4 : Int32)), .val (.int (0 : Int32)), .unset] rfl 160 rfl ?_
          refine own_iload X101 hx (hb hby at_160) rfl 162 rfl ?_
          refine own_iconst X101 hx (hb hby at_162) (1 : Int32) rfl 163 rfl ?_
          refine own_icmpN X101 hx (hb hby at_163) (flt (by decide)).1 166 rfl ?_
          refine own_iload X101 hx (hb hby at_166) rfl 168 rfl ?_
          refine own_iloadN X101 hx (hb hby at_168) rfl 169 rfl ?_
          by_cases c104 : v3 < (4 : Int32)
          ·
            refine own_icmpY X101 hx (hb hby at_169) (tlt c104).2.2.1 181 ⟨by decide, by decide⟩ ?_
            refine own_iconst X101 hx (hb hby at_181) (0 : Int32) rfl 182 rfl ?_
            refine own_istore X101 hx (hb hby at_182) #[.val (.int v0), .val (.int v1), .val (.int v2), .val (.int v3), .val (.ref a7), .val (.int (0 : Int32)), .val (.int (4 : Int32)), .val (.int (4 : Int32)), .val (.int (0 : Int32)), .val (.int (0 : Int32))] rfl 184 rfl ?_
            refine own_aload X101 hx (hb hby at_184) rfl rfl 186 rfl ?_
            refine own_iload X101 hx (hb hby at_186) rfl 188 rfl ?_
            refine own_iload X101 hx (hb hby at_188) rfl 190 rfl ?_
            refine own_iloadN X101 hx (hb hby at_190) rfl 191 rfl ?_
            refine own_callS X101 hx hZ hown (own_w hw 2 rfl) (own_w hw 3 rfl) (own_w hw 4 rfl) (own_w hw 5 rfl) (by decide) e101 (rm2 l Z a0 hw [] a7 0 4 v3 [y10, y14, y18, y22] h23 n0 (by decide) (by simp) V23) (by rw [hml]; rfl) pd_0 (argsL := [(.ref a7), (.int (0 : Int32)), (.int (4 : Int32)), (.int v3)]) rfl (rest := []) rfl (hb hby at_191) 0 (Nat.le_of_eq rfl) (by decide) (by decide) (by decide) (by decide) 194 rfl (fun T105 L105 v105 X105 hQ105 => ?_)
            obtain ⟨rfl, N105, e105⟩ := hQ105
            have N106 := Fr.app N102 N105
            show own_Go p e below G (T105.setTop (mkF m 194 #[.val (.int v0), .val (.int v1), .val (.int v2), .val (.int v3), .val (.ref a7), .val (.int (0 : Int32)), .val (.int (4 : Int32)), .val (.int (4 : Int32)), .val (.int (0 : Int32)), .val (.int (0 : Int32))] [(.int (own_isd (own_slice [y10, y14, y18, y22] 0 4) v3))]))
            refine own_iload X105 hx (hb hby at_194) rfl 196 rfl ?_
            refine own_icmpN X105 hx (hb hby at_196) (teq (by rw [show own_slice [y10, y14, y18, y22] 0 4 = [y10, y14, y18, y22] from rfl]; simp [own_isd, c95, c103, c104])).2 199 rfl ?_
            refine own_iconst X105 hx (hb hby at_199) (1 : Int32) rfl 200 rfl ?_
            refine own_goto X105 hx (hb hby at_200) 204 ⟨by decide, by decide⟩ ?_
            refine own_nreturn X105 hx Bd.notSynchronized hG Bd.returns (by simp) (hb hby at_204) (by decide) (by decide) ?_
            rw [e105]
            exact ⟨rfl, N106⟩
          ·
            refine own_icmpN X101 hx (hb hby at_169) (flt c104).2.2.1 172 rfl ?_
            refine own_iload X101 hx (hb hby at_172) rfl 174 rfl ?_
            refine own_ifY X101 hx (hb hby at_174) ((if0 _ _).trans (teq (by decide)).1) 181 ⟨by decide, by decide⟩ ?_
            refine own_iconst X101 hx (hb hby at_181) (0 : Int32) rfl 182 rfl ?_
            refine own_istore X101 hx (hb hby at_182) #[.val (.int v0), .val (.int v1), .val (.int v2), .val (.int v3), .val (.ref a7), .val (.int (0 : Int32)), .val (.int (4 : Int32)), .val (.int (4 : Int32)), .val (.int (0 : Int32)), .val (.int (0 : Int32))] rfl 184 rfl ?_
            refine own_aload X101 hx (hb hby at_184) rfl rfl 186 rfl ?_
            refine own_iload X101 hx (hb hby at_186) rfl 188 rfl ?_
            refine own_iload X101 hx (hb hby at_188) rfl 190 rfl ?_
            refine own_iloadN X101 hx (hb hby at_190) rfl 191 rfl ?_
            refine own_callS X101 hx hZ hown (own_w hw 2 rfl) (own_w hw 3 rfl) (own_w hw 4 rfl) (own_w hw 5 rfl) (by decide) e101 (rm2 l Z a0 hw [] a7 0 4 v3 [y10, y14, y18, y22] h23 n0 (by decide) (by simp) V23) (by rw [hml]; rfl) pd_0 (argsL := [(.ref a7), (.int (0 : Int32)), (.int (4 : Int32)), (.int v3)]) rfl (rest := []) rfl (hb hby at_191) 0 (Nat.le_of_eq rfl) (by decide) (by decide) (by decide) (by decide) 194 rfl (fun T107 L107 v107 X107 hQ107 => ?_)
            obtain ⟨rfl, N107, e107⟩ := hQ107
            have N108 := Fr.app N102 N107
            show own_Go p e below G (T107.setTop (mkF m 194 #[.val (.int v0), .val (.int v1), .val (.int v2), .val (.int v3), .val (.ref a7), .val (.int (0 : Int32)), .val (.int (4 : Int32)), .val (.int (4 : Int32)), .val (.int (0 : Int32)), .val (.int (0 : Int32))] [(.int (own_isd (own_slice [y10, y14, y18, y22] 0 4) v3))]))
            refine own_iload X107 hx (hb hby at_194) rfl 196 rfl ?_
            refine own_icmpN X107 hx (hb hby at_196) (teq (by rw [show own_slice [y10, y14, y18, y22] 0 4 = [y10, y14, y18, y22] from rfl]; simp [own_isd, c95, c103, c104])).2 199 rfl ?_
            refine own_iconst X107 hx (hb hby at_199) (1 : Int32) rfl 200 rfl ?_
            refine own_goto X107 hx (hb hby at_200) 204 ⟨by decide, by decide⟩ ?_
            refine own_nreturn X107 hx Bd.notSynchronized hG Bd.returns (by simp) (hb hby at_204) (by decide) (by decide) ?_
            rw [e107]
            exact ⟨rfl, N108⟩
        ·
          refine own_ifN X101 hx (hb hby at_106) ((if0 _ _).trans (feq c103).1) 109 rfl ?_
          refine own_iload X101 hx (hb hby at_109) rfl 111 rfl ?_
          refine own_iconst X101 hx (hb hby at_111) (2 : Int32) rfl 112 rfl ?_
          refine own_icmpN X101 hx (hb hby at_112) (flt (by decide)).2.2.1 115 rfl ?_
          refine own_iload X101 hx (hb hby at_115) rfl 117 rfl ?_
          refine own_iconst X101 hx (hb hby at_117) (2 : Int32) rfl 118 rfl ?_
          refine own_icmpN X101 hx (hb hby at_118) (tlt (by decide)).2.2.2 121 rfl ?_
          refine own_aload X101 hx (hb hby at_121) rfl rfl 123 rfl ?_
          refine own_iconst X101 hx (hb hby at_123) (2 : Int32) rfl 124 rfl ?_
          refine own_baload X101 hx hZ e101 V23 2 rfl y18 rfl (hb hby at_124) 125 rfl ?_
          refine own_callS X101 hx hZ hown (own_w hw 6 rfl) (own_w hw 7 rfl) (own_w hw 8 rfl) (own_w hw 9 rfl) (by decide) e101 (rm1 l Z a0 hw [] y18 h23 n0) (by rw [hml]; rfl) pd_1 (argsL := [(.int y18)]) rfl (rest := []) rfl (hb hby at_125) 0 (Nat.le_of_eq rfl) (by decide) (by decide) (by decide) (by decide) 128 rfl (fun T109 L109 v109 X109 hQ109 => ?_)
          obtain ⟨rfl, N109, e109⟩ := hQ109
          have N110 := Fr.app N102 N109
          show own_Go p e below G (T109.setTop (mkF m 128 #[.val (.int v0), .val (.int v1), .val (.int v2), .val (.int v3), .val (.ref a7), .val (.int (0 : Int32)), .val (.int (4 : Int32)), .val (.int (4 : Int32)), .unset, .unset] [(.int (own_dig y18))]))
          by_cases c111 : (own_dig y18) = (0 : Int32)
          ·
            refine own_ifY X109 hx (hb hby at_128) ((if0 _ _).trans (teq c111).1) 157 ⟨by decide, by decide⟩ ?_
            refine own_iconst X109 hx (hb hby at_157) (0 : Int32) rfl 158 rfl ?_
            refine own_istore X109 hx (hb hby at_158) #[.val (.int v0), .val (.int v1), .val (.int v2), .val (.int v3), .val (.ref a7), .val (.int (0 : Int32)), .val (.int (4 : Int32)), .val (.int (4 : Int32)), .val (.int (0 : Int32)), .unset] rfl 160 rfl ?_
            refine own_iload X109 hx (hb hby at_160) rfl 162 rfl ?_
            refine own_iconst X109 hx (hb hby at_162) (1 : Int32) rfl 163 rfl ?_
            refine own_icmpN X109 hx (hb hby at_163) (flt (by decide)).1 166 rfl ?_
            refine own_iload X109 hx (hb hby at_166) rfl 168 rfl ?_
            refine own_iloadN X109 hx (hb hby at_168) rfl 169 rfl ?_
            by_cases c112 : v3 < (4 : Int32)
            ·
              refine own_icmpY X109 hx (hb hby at_169) (tlt c112).2.2.1 181 ⟨by decide, by decide⟩ ?_
              refine own_iconst X109 hx (hb hby at_181) (0 : Int32) rfl 182 rfl ?_
              refine own_istore X109 hx (hb hby at_182) #[.val (.int v0), .val (.int v1), .val (.int v2), .val (.int v3), .val (.ref a7), .val (.int (0 : Int32)), .val (.int (4 : Int32)), .val (.int (4 : Int32)), .val (.int (0 : Int32)), .val (.int (0 : Int32))] rfl 184 rfl ?_
              refine own_aload X109 hx (hb hby at_184) rfl rfl 186 rfl ?_
              refine own_iload X109 hx (hb hby at_186) rfl 188 rfl ?_
              refine own_iload X109 hx (hb hby at_188) rfl 190 rfl ?_
              refine own_iloadN X109 hx (hb hby at_190) rfl 191 rfl ?_
              refine own_callS X109 hx hZ hown (own_w hw 2 rfl) (own_w hw 3 rfl) (own_w hw 4 rfl) (own_w hw 5 rfl) (by decide) e109 (rm2 l Z a0 hw [] a7 0 4 v3 [y10, y14, y18, y22] h23 n0 (by decide) (by simp) V23) (by rw [hml]; rfl) pd_0 (argsL := [(.ref a7), (.int (0 : Int32)), (.int (4 : Int32)), (.int v3)]) rfl (rest := []) rfl (hb hby at_191) 0 (Nat.le_of_eq rfl) (by decide) (by decide) (by decide) (by decide) 194 rfl (fun T113 L113 v113 X113 hQ113 => ?_)
              obtain ⟨rfl, N113, e113⟩ := hQ113
              have N114 := Fr.app N110 N113
              show own_Go p e below G (T113.setTop (mkF m 194 #[.val (.int v0), .val (.int v1), .val (.int v2), .val (.int v3), .val (.ref a7), .val (.int (0 : Int32)), .val (.int (4 : Int32)), .val (.int (4 : Int32)), .val (.int (0 : Int32)), .val (.int (0 : Int32))] [(.int (own_isd (own_slice [y10, y14, y18, y22] 0 4) v3))]))
              refine own_iload X113 hx (hb hby at_194) rfl 196 rfl ?_
              refine own_icmpN X113 hx (hb hby at_196) (teq (by rw [show own_slice [y10, y14, y18, y22] 0 4 = [y10, y14, y18, y22] from rfl]; simp [own_isd, c95, c103, c111, c112])).2 199 rfl ?_
              refine own_iconst X113 hx (hb hby at_199) (1 : Int32) rfl 200 rfl ?_
              refine own_goto X113 hx (hb hby at_200) 204 ⟨by decide, by decide⟩ ?_
              refine own_nreturn X113 hx Bd.notSynchronized hG Bd.returns (by simp) (hb hby at_204) (by decide) (by decide) ?_
              rw [e113]
              exact ⟨rfl, N114⟩
            ·
              refine own_icmpN X109 hx (hb hby at_169) (flt c112).2.2.1 172 rfl ?_
              refine own_iload X109 hx (hb hby at_172) rfl 174 rfl ?_
              refine own_ifY X109 hx (hb hby at_174) ((if0 _ _).trans (teq (by decide)).1) 181 ⟨by decide, by decide⟩ ?_
              refine own_iconst X109 hx (hb hby at_181) (0 : Int32) rfl 182 rfl ?_
              refine own_istore X109 hx (hb hby at_182) #[.val (.int v0), .val (.int v1), .val (.int v2), .val (.int v3), .val (.ref a7), .val (.int (0 : Int32)), .val (.int (4 : Int32)), .val (.int (4 : Int32)), .val (.int (0 : Int32)), .val (.int (0 : Int32))] rfl 184 rfl ?_
              refine own_aload X109 hx (hb hby at_184) rfl rfl 186 rfl ?_
              refine own_iload X109 hx (hb hby at_186) rfl 188 rfl ?_
              refine own_iload X109 hx (hb hby at_188) rfl 190 rfl ?_
              refine own_iloadN X109 hx (hb hby at_190) rfl 191 rfl ?_
              refine own_callS X109 hx hZ hown (own_w hw 2 rfl) (own_w hw 3 rfl) (own_w hw 4 rfl) (own_w hw 5 rfl) (by decide) e109 (rm2 l Z a0 hw [] a7 0 4 v3 [y10, y14, y18, y22] h23 n0 (by decide) (by simp) V23) (by rw [hml]; rfl) pd_0 (argsL := [(.ref a7), (.int (0 : Int32)), (.int (4 : Int32)), (.int v3)]) rfl (rest := []) rfl (hb hby at_191) 0 (Nat.le_of_eq rfl) (by decide) (by decide) (by decide) (by decide) 194 rfl (fun T115 L115 v115 X115 hQ115 => ?_)
              obtain ⟨rfl, N115, e115⟩ := hQ115
              have N116 := Fr.app N110 N115
              show own_Go p e below G (T115.setTop (mkF m 194 #[.val (.int v0), .val (.int v1), .val (.int v2), .val (.int v3), .val (.ref a7), .val (.int (0 : Int32)), .val (.int (4 : Int32)), .val (.int (4 : Int32)), .val (.int (0 : Int32)), .val (.int (0 : Int32))] [(.int (own_isd (own_slice [y10, y14, y18, y22] 0 4) v3))]))
              refine own_iload X115 hx (hb hby at_194) rfl 196 rfl ?_
              refine own_icmpN X115 hx (hb hby at_196) (teq (by rw [show own_slice [y10, y14, y18, y22] 0 4 = [y10, y14, y18, y22] from rfl]; simp [own_isd, c95, c103, c111, c112])).2 199 rfl ?_
              refine own_iconst X115 hx (hb hby at_199) (1 : Int32) rfl 200 rfl ?_
              refine own_goto X115 hx (hb hby at_200) 204 ⟨by decide, by decide⟩ ?_
              refine own_nreturn X115 hx Bd.notSynchronized hG Bd.returns (by simp) (hb hby at_204) (by decide) (by decide) ?_
              rw [e115]
              exact ⟨rfl, N116⟩
          ·
            refine own_ifN X109 hx (hb hby at_128) ((if0 _ _).trans (feq c111).1) 131 rfl ?_
            refine own_iload X109 hx (hb hby at_131) rfl 133 rfl ?_
            refine own_iconst X109 hx (hb hby at_133) (3 : Int32) rfl 134 rfl ?_
            refine own_icmpN X109 hx (hb hby at_134) (flt (by decide)).2.2.1 137 rfl ?_
            refine own_iload X109 hx (hb hby at_137) rfl 139 rfl ?_
            refine own_iconst X109 hx (hb hby at_139) (3 : Int32) rfl 140 rfl ?_
            refine own_icmpN X109 hx (hb hby at_140) (tlt (by decide)).2.2.2 143 rfl ?_
            refine own_aload X109 hx (hb hby at_143) rfl rfl 145 rfl ?_
            refine own_iconst X109 hx (hb hby at_145) (3 : Int32) rfl 146 rfl ?_
            refine own_baload X109 hx hZ e109 V23 3 rfl y22 rfl (hb hby at_146) 147 rfl ?_
            refine own_callS X109 hx hZ hown (own_w hw 6 rfl) (own_w hw 7 rfl) (own_w hw 8 rfl) (own_w hw 9 rfl) (by decide) e109 (rm1 l Z a0 hw [] y22 h23 n0) (by rw [hml]; rfl) pd_1 (argsL := [(.int y22)]) rfl (rest := []) rfl (hb hby at_147) 0 (Nat.le_of_eq rfl) (by decide) (by decide) (by decide) (by decide) 150 rfl (fun T117 L117 v117 X117 hQ117 => ?_)
            obtain ⟨rfl, N117, e117⟩ := hQ117
            have N118 := Fr.app N110 N117
            show own_Go p e below G (T117.setTop (mkF m 150 #[.val (.int v0), .val (.int v1), .val (.int v2), .val (.int v3), .val (.ref a7), .val (.int (0 : Int32)), .val (.int (4 : Int32)), .val (.int (4 : Int32)), .unset, .unset] [(.int (own_dig y22))]))
            by_cases c119 : (own_dig y22) = (0 : Int32)
            ·
              refine own_ifY X117 hx (hb hby at_150) ((if0 _ _).trans (teq c119).1) 157 ⟨by decide, by decide⟩ ?_
              refine own_iconst X117 hx (hb hby at_157) (0 : Int32) rfl 158 rfl ?_
              refine own_istore X117 hx (hb hby at_158) #[.val (.int v0), .val (.int v1), .val (.int v2), .val (.int v3), .val (.ref a7), .val (.int (0 : Int32)), .val (.int (4 : Int32)), .val (.int (4 : Int32)), .val (.int (0 : Int32)), .unset] rfl 160 rfl ?_
              refine own_iload X117 hx (hb hby at_160) rfl 162 rfl ?_
              refine own_iconst X117 hx (hb hby at_162) (1 : Int32) rfl 163 rfl ?_
              refine own_icmpN X117 hx (hb hby at_163) (flt (by decide)).1 166 rfl ?_
              refine own_iload X117 hx (hb hby at_166) rfl 168 rfl ?_
              refine own_iloadN X117 hx (hb hby at_168) rfl 169 rfl ?_
              by_cases c120 : v3 < (4 : Int32)
              ·
                refine own_icmpY X117 hx (hb hby at_169) (tlt c120).2.2.1 181 ⟨by decide, by decide⟩ ?_
                refine own_iconst X117 hx (hb hby at_181) (0 : Int32) rfl 182 rfl ?_
                refine own_istore X117 hx (hb hby at_182) #[.val (.int v0), .val (.int v1), .val (.int v2), .val (.int v3), .val (.ref a7), .val (.int (0 : Int32)), .val (.int (4 : Int32)), .val (.int (4 : Int32)), .val (.int (0 : Int32)), .val (.int (0 : Int32))] rfl 184 rfl ?_
                refine own_aload X117 hx (hb hby at_184) rfl rfl 186 rfl ?_
                refine own_iload X117 hx (hb hby at_186) rfl 188 rfl ?_
                refine own_iload X117 hx (hb hby at_188) rfl 190 rfl ?_
                refine own_iloadN X117 hx (hb hby at_190) rfl 191 rfl ?_
                refine own_callS X117 hx hZ hown (own_w hw 2 rfl) (own_w hw 3 rfl) (own_w hw 4 rfl) (own_w hw 5 rfl) (by decide) e117 (rm2 l Z a0 hw [] a7 0 4 v3 [y10, y14, y18, y22] h23 n0 (by decide) (by simp) V23) (by rw [hml]; rfl) pd_0 (argsL := [(.ref a7), (.int (0 : Int32)), (.int (4 : Int32)), (.int v3)]) rfl (rest := []) rfl (hb hby at_191) 0 (Nat.le_of_eq rfl) (by decide) (by decide) (by decide) (by decide) 194 rfl (fun T121 L121 v121 X121 hQ121 => ?_)
                obtain ⟨rfl, N121, e121⟩ := hQ121
                have N122 := Fr.app N118 N121
                show own_Go p e below G (T121.setTop (mkF m 194 #[.val (.int v0), .val (.int v1), .val (.int v2), .val (.int v3), .val (.ref a7), .val (.int (0 : Int32)), .val (.int (4 : Int32)), .val (.int (4 : Int32)), .val (.int (0 : Int32)), .val (.int (0 : Int32))] [(.int (own_isd (own_slice [y10, y14, y18, y22] 0 4) v3))]))
                refine own_iload X121 hx (hb hby at_194) rfl 196 rfl ?_
                refine own_icmpN X121 hx (hb hby at_196) (teq (by rw [show own_slice [y10, y14, y18, y22] 0 4 = [y10, y14, y18, y22] from rfl]; simp [own_isd, c95, c103, c111, c119, c120])).2 199 rfl ?_
                refine own_iconst X121 hx (hb hby at_199) (1 : Int32) rfl 200 rfl ?_
                refine own_goto X121 hx (hb hby at_200) 204 ⟨by decide, by decide⟩ ?_
                refine own_nreturn X121 hx Bd.notSynchronized hG Bd.returns (by simp) (hb hby at_204) (by decide) (by decide) ?_
                rw [e121]
                exact ⟨rfl, N122⟩
              ·
                refine own_icmpN X117 hx (hb hby at_169) (flt c120).2.2.1 172 rfl ?_
                refine own_iload X117 hx (hb hby at_172) rfl 174 rfl ?_
                refine own_ifY X117 hx (hb hby at_174) ((if0 _ _).trans (teq (by decide)).1) 181 ⟨by decide, by decide⟩ ?_
                refine own_iconst X117 hx (hb hby at_181) (0 : Int32) rfl 182 rfl ?_
                refine own_istore X117 hx (hb hby at_182) #[.val (.int v0), .val (.int v1), .val (.int v2), .val (.int v3), .val (.ref a7), .val (.int (0 : Int32)), .val (.int (4 : Int32)), .val (.int (4 : Int32)), .val (.int (0 : Int32)), .val (.int (0 : Int32))] rfl 184 rfl ?_
                refine own_aload X117 hx (hb hby at_184) rfl rfl 186 rfl ?_
                refine own_iload X117 hx (hb hby at_186) rfl 188 rfl ?_
                refine own_iload X117 hx (hb hby at_188) rfl 190 rfl ?_
                refine own_iloadN X117 hx (hb hby at_190) rfl 191 rfl ?_
                refine own_callS X117 hx hZ hown (own_w hw 2 rfl) (own_w hw 3 rfl) (own_w hw 4 rfl) (own_w hw 5 rfl) (by decide) e117 (rm2 l Z a0 hw [] a7 0 4 v3 [y10, y14, y18, y22] h23 n0 (by decide) (by simp) V23) (by rw [hml]; rfl) pd_0 (argsL := [(.ref a7), (.int (0 : Int32)), (.int (4 : Int32)), (.int v3)]) rfl (rest := []) rfl (hb hby at_191) 0 (Nat.le_of_eq rfl) (by decide) (by decide) (by decide) (by decide) 194 rfl (fun T123 L123 v123 X123 hQ123 => ?_)
                obtain ⟨rfl, N123, e123⟩ := hQ123
                have N124 := Fr.app N118 N123
                show own_Go p e below G (T123.setTop (mkF m 194 #[.val (.int v0), .val (.int v1), .val (.int v2), .val (.int v3), .val (.ref a7), .val (.int (0 : Int32)), .val (.int (4 : Int32)), .val (.int (4 : Int32)), .val (.int (0 : Int32)), .val (.int (0 : Int32))] [(.int (own_isd (own_slice [y10, y14, y18, y22] 0 4) v3))]))
                refine own_iload X123 hx (hb hby at_194) rfl 196 rfl ?_
                refine own_icmpN X123 hx (hb hby at_196) (teq (by rw [show own_slice [y10, y14, y18, y22] 0 4 = [y10, y14, y18, y22] from rfl]; simp [own_isd, c95, c103, c111, c119, c120])).2 199 rfl ?_
                refine own_iconst X123 hx (hb hby at_199) (1 : Int32) rfl 200 rfl ?_
                refine own_goto X123 hx (hb hby at_200) 204 ⟨by decide, by decide⟩ ?_
                refine own_nreturn X123 hx Bd.notSynchronized hG Bd.returns (by simp) (hb hby at_204) (by decide) (by decide) ?_
                rw [e123]
                exact ⟨rfl, N124⟩
            ·
              refine own_ifN X117 hx (hb hby at_150) ((if0 _ _).trans (feq c119).1) 153 rfl ?_
              refine own_iconst X117 hx (hb hby at_153) (1 : Int32) rfl 154 rfl ?_
              refine own_goto X117 hx (hb hby at_154) 158 ⟨by decide, by decide⟩ ?_
              refine own_istore X117 hx (hb hby at_158) #[.val (.int v0), .val (.int v1), .val (.int v2), .val (.int v3), .val (.ref a7), .val (.int (0 : Int32)), .val (.int (4 : Int32)), .val (.int (4 : Int32)), .val (.int (1 : Int32)), .unset] rfl 160 rfl ?_
              refine own_iload X117 hx (hb hby at_160) rfl 162 rfl ?_
              refine own_iconst X117 hx (hb hby at_162) (1 : Int32) rfl 163 rfl ?_
              refine own_icmpN X117 hx (hb hby at_163) (flt (by decide)).1 166 rfl ?_
              refine own_iload X117 hx (hb hby at_166) rfl 168 rfl ?_
              refine own_iloadN X117 hx (hb hby at_168) rfl 169 rfl ?_
              by_cases c125 : v3 < (4 : Int32)
              ·
                refine own_icmpY X117 hx (hb hby at_169) (tlt c125).2.2.1 181 ⟨by decide, by decide⟩ ?_
                refine own_iconst X117 hx (hb hby at_181) (0 : Int32) rfl 182 rfl ?_
                refine own_istore X117 hx (hb hby at_182) #[.val (.int v0), .val (.int v1), .val (.int v2), .val (.int v3), .val (.ref a7), .val (.int (0 : Int32)), .val (.int (4 : Int32)), .val (.int (4 : Int32)), .val (.int (1 : Int32)), .val (.int (0 : Int32))] rfl 184 rfl ?_
                refine own_aload X117 hx (hb hby at_184) rfl rfl 186 rfl ?_
                refine own_iload X117 hx (hb hby at_186) rfl 188 rfl ?_
                refine own_iload X117 hx (hb hby at_188) rfl 190 rfl ?_
                refine own_iloadN X117 hx (hb hby at_190) rfl 191 rfl ?_
                refine own_callS X117 hx hZ hown (own_w hw 2 rfl) (own_w hw 3 rfl) (own_w hw 4 rfl) (own_w hw 5 rfl) (by decide) e117 (rm2 l Z a0 hw [] a7 0 4 v3 [y10, y14, y18, y22] h23 n0 (by decide) (by simp) V23) (by rw [hml]; rfl) pd_0 (argsL := [(.ref a7), (.int (0 : Int32)), (.int (4 : Int32)), (.int v3)]) rfl (rest := []) rfl (hb hby at_191) 0 (Nat.le_of_eq rfl) (by decide) (by decide) (by decide) (by decide) 194 rfl (fun T126 L126 v126 X126 hQ126 => ?_)
                obtain ⟨rfl, N126, e126⟩ := hQ126
                have N127 := Fr.app N118 N126
                show own_Go p e below G (T126.setTop (mkF m 194 #[.val (.int v0), .val (.int v1), .val (.int v2), .val (.int v3), .val (.ref a7), .val (.int (0 : Int32)), .val (.int (4 : Int32)), .val (.int (4 : Int32)), .val (.int (1 : Int32)), .val (.int (0 : Int32))] [(.int (own_isd (own_slice [y10, y14, y18, y22] 0 4) v3))]))
                refine own_iload X126 hx (hb hby at_194) rfl 196 rfl ?_
                refine own_icmpN X126 hx (hb hby at_196) (teq (by rw [show own_slice [y10, y14, y18, y22] 0 4 = [y10, y14, y18, y22] from rfl]; simp [own_isd, c95, c103, c111, c119, c125])).2 199 rfl ?_
                refine own_iconst X126 hx (hb hby at_199) (1 : Int32) rfl 200 rfl ?_
                refine own_goto X126 hx (hb hby at_200) 204 ⟨by decide, by decide⟩ ?_
                refine own_nreturn X126 hx Bd.notSynchronized hG Bd.returns (by simp) (hb hby at_204) (by decide) (by decide) ?_
                rw [e126]
                exact ⟨rfl, N127⟩
              ·
                refine own_icmpN X117 hx (hb hby at_169) (flt c125).2.2.1 172 rfl ?_
                refine own_iload X117 hx (hb hby at_172) rfl 174 rfl ?_
                refine own_ifN X117 hx (hb hby at_174) ((if0 _ _).trans (feq (by decide)).1) 177 rfl ?_
                refine own_iconst X117 hx (hb hby at_177) (1 : Int32) rfl 178 rfl ?_
                refine own_goto X117 hx (hb hby at_178) 182 ⟨by decide, by decide⟩ ?_
                refine own_istore X117 hx (hb hby at_182) #[.val (.int v0), .val (.int v1), .val (.int v2), .val (.int v3), .val (.ref a7), .val (.int (0 : Int32)), .val (.int (4 : Int32)), .val (.int (4 : Int32)), .val (.int (1 : Int32)), .val (.int (1 : Int32))] rfl 184 rfl ?_
                refine own_aload X117 hx (hb hby at_184) rfl rfl 186 rfl ?_
                refine own_iload X117 hx (hb hby at_186) rfl 188 rfl ?_
                refine own_iload X117 hx (hb hby at_188) rfl 190 rfl ?_
                refine own_iloadN X117 hx (hb hby at_190) rfl 191 rfl ?_
                refine own_callS X117 hx hZ hown (own_w hw 2 rfl) (own_w hw 3 rfl) (own_w hw 4 rfl) (own_w hw 5 rfl) (by decide) e117 (rm2 l Z a0 hw [] a7 0 4 v3 [y10, y14, y18, y22] h23 n0 (by decide) (by simp) V23) (by rw [hml]; rfl) pd_0 (argsL := [(.ref a7), (.int (0 : Int32)), (.int (4 : Int32)), (.int v3)]) rfl (rest := []) rfl (hb hby at_191) 0 (Nat.le_of_eq rfl) (by decide) (by decide) (by decide) (by decide) 194 rfl (fun T128 L128 v128 X128 hQ128 => ?_)
                obtain ⟨rfl, N128, e128⟩ := hQ128
                have N129 := Fr.app N118 N128
                show own_Go p e below G (T128.setTop (mkF m 194 #[.val (.int v0), .val (.int v1), .val (.int v2), .val (.int v3), .val (.ref a7), .val (.int (0 : Int32)), .val (.int (4 : Int32)), .val (.int (4 : Int32)), .val (.int (1 : Int32)), .val (.int (1 : Int32))] [(.int (own_isd (own_slice [y10, y14, y18, y22] 0 4) v3))]))
                refine own_iload X128 hx (hb hby at_194) rfl 196 rfl ?_
                refine own_icmpN X128 hx (hb hby at_196) (teq (by rw [show own_slice [y10, y14, y18, y22] 0 4 = [y10, y14, y18, y22] from rfl]; simp [own_isd, c95, c103, c111, c119, c125])).2 199 rfl ?_
                refine own_iconst X128 hx (hb hby at_199) (1 : Int32) rfl 200 rfl ?_
                refine own_goto X128 hx (hb hby at_200) 204 ⟨by decide, by decide⟩ ?_
                refine own_nreturn X128 hx Bd.notSynchronized hG Bd.returns (by simp) (hb hby at_204) (by decide) (by decide) ?_
                rw [e128]
                exact ⟨rfl, N129⟩
  ·
    refine own_iload X23 hx (hb hby at_46) rfl 48 rfl ?_
    refine own_iloadN X23 hx (hb hby at_48) rfl 49 rfl ?_
    refine own_ldcInt X23 hx hown (mvT hZ (own_w hw 1 rfl)) (hb hby at_49) 51 rfl ?_
    refine own_iand X23 hx (hb hby at_51) 52 rfl ?_
    refine own_iconst X23 hx (hb hby at_52) (5 : Int32) rfl 53 rfl ?_
    refine own_iload X23 hx (hb hby at_53) rfl 55 rfl ?_
    refine own_isub X23 hx (hb hby at_55) 56 rfl ?_
    show own_Go p e below G (T23.setTop (mkF m 56 #[.val (.int v0), .val (.int v1), .val (.int v2), .val (.int v3), .val (.ref a7), .val (.int (1 : Int32)), .unset, .unset, .unset, .unset] [(.int (4 : Int32)), (.int (v2 &&& (2147483647 : Int32))), (.int (1 : Int32))]))
    refine own_irem X23 hx (hb hby at_56) (by decide) 57 rfl ?_
    generalize hy130 : ((v2 &&& (2147483647 : Int32)) % (4 : Int32)) = y130
    have hm : y130 = 0 ∨ y130 = 1 ∨ y130 = 2 ∨ y130 = 3 := by
      obtain ⟨i, hi, he⟩ := own_mod v2 4 4 rfl (by decide)
      rw [← hy130, he]
      have q : i = 0 ∨ i = 1 ∨ i = 2 ∨ i = 3 := by omega
      rcases q with rfl | rfl | rfl | rfl <;> decide
    rcases hm with rfl | rfl | rfl | rfl
    ·
      refine own_iadd X23 hx (hb hby at_57) 58 rfl ?_
      show own_Go p e below G (T23.setTop (mkF m 58 #[.val (.int v0), .val (.int v1), .val (.int v2), .val (.int v3), .val (.ref a7), .val (.int (1 : Int32)), .unset, .unset, .unset, .unset] [(.int (1 : Int32))]))
      refine own_istore X23 hx (hb hby at_58) #[.val (.int v0), .val (.int v1), .val (.int v2), .val (.int v3), .val (.ref a7), .val (.int (1 : Int32)), .val (.int (1 : Int32)), .unset, .unset, .unset] rfl 60 rfl ?_
      refine own_iload X23 hx (hb hby at_60) rfl 62 rfl ?_
      refine own_iload X23 hx (hb hby at_62) rfl 64 rfl ?_
      refine own_isub X23 hx (hb hby at_64) 65 rfl ?_
      show own_Go p e below G (T23.setTop (mkF m 65 #[.val (.int v0), .val (.int v1), .val (.int v2), .val (.int v3), .val (.ref a7), .val (.int (1 : Int32)), .val (.int (1 : Int32)), .unset, .unset, .unset] [(.int (0 : Int32))]))
      refine own_istore X23 hx (hb hby at_65) #[.val (.int v0), .val (.int v1), .val (.int v2), .val (.int v3), .val (.ref a7), .val (.int (1 : Int32)), .val (.int (1 : Int32)), .val (.int (0 : Int32)), .unset, .unset] rfl 67 rfl ?_
      refine own_iload X23 hx (hb hby at_67) rfl 69 rfl ?_
      refine own_ifY X23 hx (hb hby at_69) ((if0 _ _).trans (tlt (by decide)).2.2.1) 87 ⟨by decide, by decide⟩ ?_
      refine own_iload X23 hx (hb hby at_87) rfl 89 rfl ?_
      refine own_iconst X23 hx (hb hby at_89) (1 : Int32) rfl 90 rfl ?_
      refine own_icmpN X23 hx (hb hby at_90) (flt (by decide)).2.2.1 93 rfl ?_
      refine own_iload X23 hx (hb hby at_93) rfl 95 rfl ?_
      refine own_iconst X23 hx (hb hby at_95) (1 : Int32) rfl 96 rfl ?_
      refine own_icmpY X23 hx (hb hby at_96) (flt (by decide)).2.2.2 109 ⟨by decide, by decide⟩ ?_
      refine own_iload X23 hx (hb hby at_109) rfl 111 rfl ?_
      refine own_iconst X23 hx (hb hby at_111) (2 : Int32) rfl 112 rfl ?_
      refine own_icmpN X23 hx (hb hby at_112) (flt (by decide)).2.2.1 115 rfl ?_
      refine own_iload X23 hx (hb hby at_115) rfl 117 rfl ?_
      refine own_iconst X23 hx (hb hby at_117) (2 : Int32) rfl 118 rfl ?_
      refine own_icmpY X23 hx (hb hby at_118) (flt (by decide)).2.2.2 131 ⟨by decide, by decide⟩ ?_
      refine own_iload X23 hx (hb hby at_131) rfl 133 rfl ?_
      refine own_iconst X23 hx (hb hby at_133) (3 : Int32) rfl 134 rfl ?_
      refine own_icmpN X23 hx (hb hby at_134) (flt (by decide)).2.2.1 137 rfl ?_
      refine own_iload X23 hx (hb hby at_137) rfl 139 rfl ?_
      refine own_iconst X23 hx (hb hby at_139) (3 : Int32) rfl 140 rfl ?_
      refine own_icmpY X23 hx (hb hby at_140) (flt (by decide)).2.2.2 153 ⟨by decide, by decide⟩ ?_
      refine own_iconst X23 hx (hb hby at_153) (1 : Int32) rfl 154 rfl ?_
      refine own_goto X23 hx (hb hby at_154) 158 ⟨by decide, by decide⟩ ?_
      refine own_istore X23 hx (hb hby at_158) #[.val (.int v0), .val (.int v1), .val (.int v2), .val (.int v3), .val (.ref a7), .val (.int (1 : Int32)), .val (.int (1 : Int32)), .val (.int (0 : Int32)), .val (.int (1 : Int32)), .unset] rfl 160 rfl ?_
      refine own_iload X23 hx (hb hby at_160) rfl 162 rfl ?_
      refine own_iconst X23 hx (hb hby at_162) (1 : Int32) rfl 163 rfl ?_
      refine own_icmpY X23 hx (hb hby at_163) (tlt (by decide)).1 181 ⟨by decide, by decide⟩ ?_
      refine own_iconst X23 hx (hb hby at_181) (0 : Int32) rfl 182 rfl ?_
      refine own_istore X23 hx (hb hby at_182) #[.val (.int v0), .val (.int v1), .val (.int v2), .val (.int v3), .val (.ref a7), .val (.int (1 : Int32)), .val (.int (1 : Int32)), .val (.int (0 : Int32)), .val (.int (1 : Int32)), .val (.int (0 : Int32))] rfl 184 rfl ?_
      refine own_aload X23 hx (hb hby at_184) rfl rfl 186 rfl ?_
      refine own_iload X23 hx (hb hby at_186) rfl 188 rfl ?_
      refine own_iload X23 hx (hb hby at_188) rfl 190 rfl ?_
      refine own_iloadN X23 hx (hb hby at_190) rfl 191 rfl ?_
      refine own_callS X23 hx hZ hown (own_w hw 2 rfl) (own_w hw 3 rfl) (own_w hw 4 rfl) (own_w hw 5 rfl) (by decide) e23 (rm2 l Z a0 hw [] a7 1 1 v3 [y10, y14, y18, y22] h23 n0 (by decide) (by simp) V23) (by rw [hml]; rfl) pd_0 (argsL := [(.ref a7), (.int (1 : Int32)), (.int (1 : Int32)), (.int v3)]) rfl (rest := []) rfl (hb hby at_191) 0 (Nat.le_of_eq rfl) (by decide) (by decide) (by decide) (by decide) 194 rfl (fun T131 L131 v131 X131 hQ131 => ?_)
      obtain ⟨rfl, N131, e131⟩ := hQ131
      have N132 := Fr.app N24 N131
      show own_Go p e below G (T131.setTop (mkF m 194 #[.val (.int v0), .val (.int v1), .val (.int v2), .val (.int v3), .val (.ref a7), .val (.int (1 : Int32)), .val (.int (1 : Int32)), .val (.int (0 : Int32)), .val (.int (1 : Int32)), .val (.int (0 : Int32))] [(.int (own_isd (own_slice [y10, y14, y18, y22] 1 1) v3))]))
      refine own_iload X131 hx (hb hby at_194) rfl 196 rfl ?_
      refine own_icmpN X131 hx (hb hby at_196) (teq (by rw [show own_slice [y10, y14, y18, y22] 1 1 = ([] : List Int32) from rfl]; simp [own_isd])).2 199 rfl ?_
      refine own_iconst X131 hx (hb hby at_199) (1 : Int32) rfl 200 rfl ?_
      refine own_goto X131 hx (hb hby at_200) 204 ⟨by decide, by decide⟩ ?_
      refine own_nreturn X131 hx Bd.notSynchronized hG Bd.returns (by simp) (hb hby at_204) (by decide) (by decide) ?_
      rw [e131]
      exact ⟨rfl, N132⟩
    ·
      refine own_iadd X23 hx (hb hby at_57) 58 rfl ?_
      show own_Go p e below G (T23.setTop (mkF m 58 #[.val (.int v0), .val (.int v1), .val (.int v2), .val (.int v3), .val (.ref a7), .val (.int (1 : Int32)), .unset, .unset, .unset, .unset] [(.int (2 : Int32))]))
      refine own_istore X23 hx (hb hby at_58) #[.val (.int v0), .val (.int v1), .val (.int v2), .val (.int v3), .val (.ref a7), .val (.int (1 : Int32)), .val (.int (2 : Int32)), .unset, .unset, .unset] rfl 60 rfl ?_
      refine own_iload X23 hx (hb hby at_60) rfl 62 rfl ?_
      refine own_iload X23 hx (hb hby at_62) rfl 64 rfl ?_
      refine own_isub X23 hx (hb hby at_64) 65 rfl ?_
      show own_Go p e below G (T23.setTop (mkF m 65 #[.val (.int v0), .val (.int v1), .val (.int v2), .val (.int v3), .val (.ref a7), .val (.int (1 : Int32)), .val (.int (2 : Int32)), .unset, .unset, .unset] [(.int (1 : Int32))]))
      refine own_istore X23 hx (hb hby at_65) #[.val (.int v0), .val (.int v1), .val (.int v2), .val (.int v3), .val (.ref a7), .val (.int (1 : Int32)), .val (.int (2 : Int32)), .val (.int (1 : Int32)), .unset, .unset] rfl 67 rfl ?_
      refine own_iload X23 hx (hb hby at_67) rfl 69 rfl ?_
      refine own_ifY X23 hx (hb hby at_69) ((if0 _ _).trans (tlt (by decide)).2.2.1) 87 ⟨by decide, by decide⟩ ?_
      refine own_iload X23 hx (hb hby at_87) rfl 89 rfl ?_
      refine own_iconst X23 hx (hb hby at_89) (1 : Int32) rfl 90 rfl ?_
      refine own_icmpN X23 hx (hb hby at_90) (flt (by decide)).2.2.1 93 rfl ?_
      refine own_iload X23 hx (hb hby at_93) rfl 95 rfl ?_
      refine own_iconst X23 hx (hb hby at_95) (1 : Int32) rfl 96 rfl ?_
      refine own_icmpN X23 hx (hb hby at_96) (tlt (by decide)).2.2.2 99 rfl ?_
      refine own_aload X23 hx (hb hby at_99) rfl rfl 101 rfl ?_
      refine own_iconst X23 hx (hb hby at_101) (1 : Int32) rfl 102 rfl ?_
      refine own_baload X23 hx hZ e23 V23 1 rfl y14 rfl (hb hby at_102) 103 rfl ?_
      refine own_callS X23 hx hZ hown (own_w hw 6 rfl) (own_w hw 7 rfl) (own_w hw 8 rfl) (own_w hw 9 rfl) (by decide) e23 (rm1 l Z a0 hw [] y14 h23 n0) (by rw [hml]; rfl) pd_1 (argsL := [(.int y14)]) rfl (rest := []) rfl (hb hby at_103) 0 (Nat.le_of_eq rfl) (by decide) (by decide) (by decide) (by decide) 106 rfl (fun T133 L133 v133 X133 hQ133 => ?_)
      obtain ⟨rfl, N133, e133⟩ := hQ133
      have N134 := Fr.app N24 N133
      show own_Go p e below G (T133.setTop (mkF m 106 #[.val (.int v0), .val (.int v1), .val (.int v2), .val (.int v3), .val (.ref a7), .val (.int (1 : Int32)), .val (.int (2 : Int32)), .val (.int (1 : Int32)), .unset, .unset] [(.int (own_dig y14))]))
      by_cases c135 : (own_dig y14) = (0 : Int32)
      ·
        refine own_ifY X133 hx (hb hby at_106) ((if0 _ _).trans (teq c135).1) 157 ⟨by decide, by decide⟩ ?_
        refine own_iconst X133 hx (hb hby at_157) (0 : Int32) rfl 158 rfl ?_
        refine own_istore X133 hx (hb hby at_158) #[.val (.int v0), .val (.int v1), .val (.int v2), .val (.int v3), .val (.ref a7), .val (.int (1 : Int32)), .val (.int (2 : Int32)), .val (.int (1 : Int32)), .val (.int (0 : Int32)), .unset] rfl 160 rfl ?_
        refine own_iload X133 hx (hb hby at_160) rfl 162 rfl ?_
        refine own_iconst X133 hx (hb hby at_162) (1 : Int32) rfl 163 rfl ?_
        refine own_icmpN X133 hx (hb hby at_163) (flt (by decide)).1 166 rfl ?_
        refine own_iload X133 hx (hb hby at_166) rfl 168 rfl ?_
        refine own_iloadN X133 hx (hb hby at_168) rfl 169 rfl ?_
        by_cases c136 : v3 < (1 : Int32)
        ·
          refine own_icmpY X133 hx (hb hby at_169) (tlt c136).2.2.1 181 ⟨by decide, by decide⟩ ?_
          refine own_iconst X133 hx (hb hby at_181) (0 : Int32) rfl 182 rfl ?_
          refine own_istore X133 hx (hb hby at_182) #[.val (.int v0), .val (.int v1), .val (.int v2), .val (.int v3), .val (.ref a7), .val (.int (1 : Int32)), .val (.int (2 : Int32)), .val (.int (1 : Int32)), .val (.int (0 : Int32)), .val (.int (0 : Int32))] rfl 184 rfl ?_
          refine own_aload X133 hx (hb hby at_184) rfl rfl 186 rfl ?_
          refine own_iload X133 hx (hb hby at_186) rfl 188 rfl ?_
          refine own_iload X133 hx (hb hby at_188) rfl 190 rfl ?_
          refine own_iloadN X133 hx (hb hby at_190) rfl 191 rfl ?_
          refine own_callS X133 hx hZ hown (own_w hw 2 rfl) (own_w hw 3 rfl) (own_w hw 4 rfl) (own_w hw 5 rfl) (by decide) e133 (rm2 l Z a0 hw [] a7 1 2 v3 [y10, y14, y18, y22] h23 n0 (by decide) (by simp) V23) (by rw [hml]; rfl) pd_0 (argsL := [(.ref a7), (.int (1 : Int32)), (.int (2 : Int32)), (.int v3)]) rfl (rest := []) rfl (hb hby at_191) 0 (Nat.le_of_eq rfl) (by decide) (by decide) (by decide) (by decide) 194 rfl (fun T137 L137 v137 X137 hQ137 => ?_)
          obtain ⟨rfl, N137, e137⟩ := hQ137
          have N138 := Fr.app N134 N137
          show own_Go p e below G (T137.setTop (mkF m 194 #[.val (.int v0), .val (.int v1), .val (.int v2), .val (.int v3), .val (.ref a7), .val (.int (1 : Int32)), .val (.int (2 : Int32)), .val (.int (1 : Int32)), .val (.int (0 : Int32)), .val (.int (0 : Int32))] [(.int (own_isd (own_slice [y10, y14, y18, y22] 1 2) v3))]))
          refine own_iload X137 hx (hb hby at_194) rfl 196 rfl ?_
          refine own_icmpN X137 hx (hb hby at_196) (teq (by rw [show own_slice [y10, y14, y18, y22] 1 2 = [y14] from rfl]; simp [own_isd, c135, c136])).2 199 rfl ?_
          refine own_iconst X137 hx (hb hby at_199) (1 : Int32) rfl 200 rfl ?_
          refine own_goto X137 hx (hb hby at_200) 204 ⟨by decide, by decide⟩ ?_
          refine own_nreturn X137 hx Bd.notSynchronized hG Bd.returns (by simp) (hb hby at_204) (by decide) (by decide) ?_
          rw [e137]
          exact ⟨rfl, N138⟩
        ·
          refine own_icmpN X133 hx (hb hby at_169) (flt c136).2.2.1 172 rfl ?_
          refine own_iload X133 hx (hb hby at_172) rfl 174 rfl ?_
          refine own_ifY X133 hx (hb hby at_174) ((if0 _ _).trans (teq (by decide)).1) 181 ⟨by decide, by decide⟩ ?_
          refine own_iconst X133 hx (hb hby at_181) (0 : Int32) rfl 182 rfl ?_
          refine own_istore X133 hx (hb hby at_182) #[.val (.int v0), .val (.int v1), .val (.int v2), .val (.int v3), .val (.ref a7), .val (.int (1 : Int32)), .val (.int (2 : Int32)), .val (.int (1 : Int32)), .val (.int (0 : Int32)), .val (.int (0 : Int32))] rfl 184 rfl ?_
          refine own_aload X133 hx (hb hby at_184) rfl rfl 186 rfl ?_
          refine own_iload X133 hx (hb hby at_186) rfl 188 rfl ?_
          refine own_iload X133 hx (hb hby at_188) rfl 190 rfl ?_
          refine own_iloadN X133 hx (hb hby at_190) rfl 191 rfl ?_
          refine own_callS X133 hx hZ hown (own_w hw 2 rfl) (own_w hw 3 rfl) (own_w hw 4 rfl) (own_w hw 5 rfl) (by decide) e133 (rm2 l Z a0 hw [] a7 1 2 v3 [y10, y14, y18, y22] h23 n0 (by decide) (by simp) V23) (by rw [hml]; rfl) pd_0 (argsL := [(.ref a7), (.int (1 : Int32)), (.int (2 : Int32)), (.int v3)]) rfl (rest := []) rfl (hb hby at_191) 0 (Nat.le_of_eq rfl) (by decide) (by decide) (by decide) (by decide) 194 rfl (fun T139 L139 v139 X139 hQ139 => ?_)
          obtain ⟨rfl, N139, e139⟩ := hQ139
          have N140 := Fr.app N134 N139
          show own_Go p e below G (T139.setTop (mkF m 194 #[.val (.int v0), .val (.int v1), .val (.int v2), .val (.int v3), .val (.ref a7), .val (.int (1 : Int32)), .val (.int (2 : Int32)), .val (.int (1 : Int32)), .val (.int (0 : Int32)), .val (.int (0 : Int32))] [(.int (own_isd (own_slice [y10, y14, y18, y22] 1 2) v3))]))
          refine own_iload X139 hx (hb hby at_194) rfl 196 rfl ?_
          refine own_icmpN X139 hx (hb hby at_196) (teq (by rw [show own_slice [y10, y14, y18, y22] 1 2 = [y14] from rfl]; simp [own_isd, c135, c136])).2 199 rfl ?_
          refine own_iconst X139 hx (hb hby at_199) (1 : Int32) rfl 200 rfl ?_
          refine own_goto X139 hx (hb hby at_200) 204 ⟨by decide, by decide⟩ ?_
          refine own_nreturn X139 hx Bd.notSynchronized hG Bd.returns (by simp) (hb hby at_204) (by decide) (by decide) ?_
          rw [e139]
          exact ⟨rfl, N140⟩
      ·
        refine own_ifN X133 hx (hb hby at_106) ((if0 _ _).trans (feq c135).1) 109 rfl ?_
        refine own_iload X133 hx (hb hby at_109) rfl 111 rfl ?_
        refine own_iconst X133 hx (hb hby at_111) (2 : Int32) rfl 112 rfl ?_
        refine own_icmpN X133 hx (hb hby at_112) (flt (by decide)).2.2.1 115 rfl ?_
        refine own_iload X133 hx (hb hby at_115) rfl 117 rfl ?_
        refine own_iconst X133 hx (hb hby at_117) (2 : Int32) rfl 118 rfl ?_
        refine own_icmpY X133 hx (hb hby at_118) (flt (by decide)).2.2.2 131 ⟨by decide, by decide⟩ ?_
        refine own_iload X133 hx (hb hby at_131) rfl 133 rfl ?_
        refine own_iconst X133 hx (hb hby at_133) (3 : Int32) rfl 134 rfl ?_
        refine own_icmpN X133 hx (hb hby at_134) (flt (by decide)).2.2.1 137 rfl ?_
        refine own_iload X133 hx (hb hby at_137) rfl 139 rfl ?_
        refine own_iconst X133 hx (hb hby at_139) (3 : Int32) rfl 140 rfl ?_
        refine own_icmpY X133 hx (hb hby at_140) (flt (by decide)).2.2.2 153 ⟨by decide, by decide⟩ ?_
        refine own_iconst X133 hx (hb hby at_153) (1 : Int32) rfl 154 rfl ?_
        refine own_goto X133 hx (hb hby at_154) 158 ⟨by decide, by decide⟩ ?_
        refine own_istore X133 hx (hb hby at_158) #[.val (.int v0), .val (.int v1), .val (.int v2), .val (.int v3), .val (.ref a7), .val (.int (1 : Int32)), .val (.int (2 : Int32)), .val (.int (1 : Int32)), .val (.int (1 : Int32)), .unset] rfl 160 rfl ?_
        refine own_iload X133 hx (hb hby at_160) rfl 162 rfl ?_
        refine own_iconst X133 hx (hb hby at_162) (1 : Int32) rfl 163 rfl ?_
        refine own_icmpN X133 hx (hb hby at_163) (flt (by decide)).1 166 rfl ?_
        refine own_iload X133 hx (hb hby at_166) rfl 168 rfl ?_
        refine own_iloadN X133 hx (hb hby at_168) rfl 169 rfl ?_
        by_cases c141 : v3 < (1 : Int32)
        ·
          refine own_icmpY X133 hx (hb hby at_169) (tlt c141).2.2.1 181 ⟨by decide, by decide⟩ ?_
          refine own_iconst X133 hx (hb hby at_181) (0 : Int32) rfl 182 rfl ?_
          refine own_istore X133 hx (hb hby at_182) #[.val (.int v0), .val (.int v1), .val (.int v2), .val (.int v3), .val (.ref a7), .val (.int (1 : Int32)), .val (.int (2 : Int32)), .val (.int (1 : Int32)), .val (.int (1 : Int32)), .val (.int (0 : Int32))] rfl 184 rfl ?_
          refine own_aload X133 hx (hb hby at_184) rfl rfl 186 rfl ?_
          refine own_iload X133 hx (hb hby at_186) rfl 188 rfl ?_
          refine own_iload X133 hx (hb hby at_188) rfl 190 rfl ?_
          refine own_iloadN X133 hx (hb hby at_190) rfl 191 rfl ?_
          refine own_callS X133 hx hZ hown (own_w hw 2 rfl) (own_w hw 3 rfl) (own_w hw 4 rfl) (own_w hw 5 rfl) (by decide) e133 (rm2 l Z a0 hw [] a7 1 2 v3 [y10, y14, y18, y22] h23 n0 (by decide) (by simp) V23) (by rw [hml]; rfl) pd_0 (argsL := [(.ref a7), (.int (1 : Int32)), (.int (2 : Int32)), (.int v3)]) rfl (rest := []) rfl (hb hby at_191) 0 (Nat.le_of_eq rfl) (by decide) (by decide) (by decide) (by decide) 194 rfl (fun T142 L142 v142 X142 hQ142 => ?_)
          obtain ⟨rfl, N142, e142⟩ := hQ142
          have N143 := Fr.app N134 N142
          show own_Go p e below G (T142.setTop (mkF m 194 #[.val (.int v0), .val (.int v1), .val (.int v2), .val (.int v3), .val (.ref a7), .val (.int (1 : Int32)), .val (.int (2 : Int32)), .val (.int (1 : Int32)), .val (.int (1 : Int32)), .val (.int (0 : Int32))] [(.int (own_isd (own_slice [y10, y14, y18, y22] 1 2) v3))]))
          refine own_iload X142 hx (hb hby at_194) rfl 196 rfl ?_
          refine own_icmpN X142 hx (hb hby at_196) (teq (by rw [show own_slice [y10, y14, y18, y22] 1 2 = [y14] from rfl]; simp [own_isd, c135, c141])).2 199 rfl ?_
          refine own_iconst X142 hx (hb hby at_199) (1 : Int32) rfl 200 rfl ?_
          refine own_goto X142 hx (hb hby at_200) 204 ⟨by decide, by decide⟩ ?_
          refine own_nreturn X142 hx Bd.notSynchronized hG Bd.returns (by simp) (hb hby at_204) (by decide) (by decide) ?_
          rw [e142]
          exact ⟨rfl, N143⟩
        ·
          refine own_icmpN X133 hx (hb hby at_169) (flt c141).2.2.1 172 rfl ?_
          refine own_iload X133 hx (hb hby at_172) rfl 174 rfl ?_
          refine own_ifN X133 hx (hb hby at_174) ((if0 _ _).trans (feq (by decide)).1) 177 rfl ?_
          refine own_iconst X133 hx (hb hby at_177) (1 : Int32) rfl 178 rfl ?_
          refine own_goto X133 hx (hb hby at_178) 182 ⟨by decide, by decide⟩ ?_
          refine own_istore X133 hx (hb hby at_182) #[.val (.int v0), .val (.int v1), .val (.int v2), .val (.int v3), .val (.ref a7), .val (.int (1 : Int32)), .val (.int (2 : Int32)), .val (.int (1 : Int32)), .val (.int (1 : Int32)), .val (.int (1 : Int32))] rfl 184 rfl ?_
          refine own_aload X133 hx (hb hby at_184) rfl rfl 186 rfl ?_
          refine own_iload X133 hx (hb hby at_186) rfl 188 rfl ?_
          refine own_iload X133 hx (hb hby at_188) rfl 190 rfl ?_
          refine own_iloadN X133 hx (hb hby at_190) rfl 191 rfl ?_
          refine own_callS X133 hx hZ hown (own_w hw 2 rfl) (own_w hw 3 rfl) (own_w hw 4 rfl) (own_w hw 5 rfl) (by decide) e133 (rm2 l Z a0 hw [] a7 1 2 v3 [y10, y14, y18, y22] h23 n0 (by decide) (by simp) V23) (by rw [hml]; rfl) pd_0 (argsL := [(.ref a7), (.int (1 : Int32)), (.int (2 : Int32)), (.int v3)]) rfl (rest := []) rfl (hb hby at_191) 0 (Nat.le_of_eq rfl) (by decide) (by decide) (by decide) (by decide) 194 rfl (fun T144 L144 v144 X144 hQ144 => ?_)
          obtain ⟨rfl, N144, e144⟩ := hQ144
          have N145 := Fr.app N134 N144
          show own_Go p e below G (T144.setTop (mkF m 194 #[.val (.int v0), .val (.int v1), .val (.int v2), .val (.int v3), .val (.ref a7), .val (.int (1 : Int32)), .val (.int (2 : Int32)), .val (.int (1 : Int32)), .val (.int (1 : Int32)), .val (.int (1 : Int32))] [(.int (own_isd (own_slice [y10, y14, y18, y22] 1 2) v3))]))
          refine own_iload X144 hx (hb hby at_194) rfl 196 rfl ?_
          refine own_icmpN X144 hx (hb hby at_196) (teq (by rw [show own_slice [y10, y14, y18, y22] 1 2 = [y14] from rfl]; simp [own_isd, c135, c141])).2 199 rfl ?_
          refine own_iconst X144 hx (hb hby at_199) (1 : Int32) rfl 200 rfl ?_
          refine own_goto X144 hx (hb hby at_200) 204 ⟨by decide, by decide⟩ ?_
          refine own_nreturn X144 hx Bd.notSynchronized hG Bd.returns (by simp) (hb hby at_204) (by decide) (by decide) ?_
          rw [e144]
          exact ⟨rfl, N145⟩
    ·
      refine own_iadd X23 hx (hb hby at_57) 58 rfl ?_
      show own_Go p e below G (T23.setTop (mkF m 58 #[.val (.int v0), .val (.int v1), .val (.int v2), .val (.int v3), .val (.ref a7), .val (.int (1 : Int32)), .unset, .unset, .unset, .unset] [(.int (3 : Int32))]))
      refine own_istore X23 hx (hb hby at_58) #[.val (.int v0), .val (.int v1), .val (.int v2), .val (.int v3), .val (.ref a7), .val (.int (1 : Int32)), .val (.int (3 : Int32)), .unset, .unset, .unset] rfl 60 rfl ?_
      refine own_iload X23 hx (hb hby at_60) rfl 62 rfl ?_
      refine own_iload X23 hx (hb hby at_62) rfl 64 rfl ?_
      refine own_isub X23 hx (hb hby at_64) 65 rfl ?_
      show own_Go p e below G (T23.setTop (mkF m 65 #[.val (.int v0), .val (.int v1), .val (.int v2), .val (.int v3), .val (.ref a7), .val (.int (1 : Int32)), .val (.int (3 : Int32)), .unset, .unset, .unset] [(.int (2 : Int32))]))
      refine own_istore X23 hx (hb hby at_65) #[.val (.int v0), .val (.int v1), .val (.int v2), .val (.int v3), .val (.ref a7), .val (.int (1 : Int32)), .val (.int (3 : Int32)), .val (.int (2 : Int32)), .unset, .unset] rfl 67 rfl ?_
      refine own_iload X23 hx (hb hby at_67) rfl 69 rfl ?_
      refine own_ifY X23 hx (hb hby at_69) ((if0 _ _).trans (tlt (by decide)).2.2.1) 87 ⟨by decide, by decide⟩ ?_
      refine own_iload X23 hx (hb hby at_87) rfl 89 rfl ?_
      refine own_iconst X23 hx (hb hby at_89) (1 : Int32) rfl 90 rfl ?_
      refine own_icmpN X23 hx (hb hby at_90) (flt (by decide)).2.2.1 93 rfl ?_
      refine own_iload X23 hx (hb hby at_93) rfl 95 rfl ?_
      refine own_iconst X23 hx (hb hby at_95) (1 : Int32) rfl 96 rfl ?_
      refine own_icmpN X23 hx (hb hby at_96) (tlt (by decide)).2.2.2 99 rfl ?_
      refine own_aload X23 hx (hb hby at_99) rfl rfl 101 rfl ?_
      refine own_iconst X23 hx (hb hby at_101) (1 : Int32) rfl 102 rfl ?_
      refine own_baload X23 hx hZ e23 V23 1 rfl y14 rfl (hb hby at_102) 103 rfl ?_
      refine own_callS X23 hx hZ hown (own_w hw 6 rfl) (own_w hw 7 rfl) (own_w hw 8 rfl) (own_w hw 9 rfl) (by decide) e23 (rm1 l Z a0 hw [] y14 h23 n0) (by rw [hml]; rfl) pd_1 (argsL := [(.int y14)]) rfl (rest := []) rfl (hb hby at_103) 0 (Nat.le_of_eq rfl) (by decide) (by decide) (by decide) (by decide) 106 rfl (fun T146 L146 v146 X146 hQ146 => ?_)
      obtain ⟨rfl, N146, e146⟩ := hQ146
      have N147 := Fr.app N24 N146
      show own_Go p e below G (T146.setTop (mkF m 106 #[.val (.int v0), .val (.int v1), .val (.int v2), .val (.int v3), .val (.ref a7), .val (.int (1 : Int32)), .val (.int (3 : Int32)), .val (.int (2 : Int32)), .unset, .unset] [(.int (own_dig y14))]))
      by_cases c148 : (own_dig y14) = (0 : Int32)
      ·
        refine own_ifY X146 hx (hb hby at_106) ((if0 _ _).trans (teq c148).1) 157 ⟨by decide, by decide⟩ ?_
        refine own_iconst X146 hx (hb hby at_157) (0 : Int32) rfl 158 rfl ?_
        refine own_istore X146 hx (hb hby at_158) #[.val (.int v0), .val (.int v1), .val (.int v2), .val (.int v3), .val (.ref a7), .val (.int (1 : Int32)), .val (.int (3 : Int32)), .val (.int (2 : Int32)), .val (.int (0 : Int32)), .unset] rfl 160 rfl ?_
        refine own_iload X146 hx (hb hby at_160) rfl 162 rfl ?_
        refine own_iconst X146 hx (hb hby at_162) (1 : Int32) rfl 163 rfl ?_
        refine own_icmpN X146 hx (hb hby at_163) (flt (by decide)).1 166 rfl ?_
        refine own_iload X146 hx (hb hby at_166) rfl 168 rfl ?_
        refine own_iloadN X146 hx (hb hby at_168) rfl 169 rfl ?_
        by_cases c149 : v3 < (2 : Int32)
        ·
          refine own_icmpY X146 hx (hb hby at_169) (tlt c149).2.2.1 181 ⟨by decide, by decide⟩ ?_
          refine own_iconst X146 hx (hb hby at_181) (0 : Int32) rfl 182 rfl ?_
          refine own_istore X146 hx (hb hby at_182) #[.val (.int v0), .val (.int v1), .val (.int v2), .val (.int v3), .val (.ref a7), .val (.int (1 : Int32)), .val (.int (3 : Int32)), .val (.int (2 : Int32)), .val (.int (0 : Int32)), .val (.int (0 : Int32))] rfl 184 rfl ?_
          refine own_aload X146 hx (hb hby at_184) rfl rfl 186 rfl ?_
          refine own_iload X146 hx (hb hby at_186) rfl 188 rfl ?_
          refine own_iload X146 hx (hb hby at_188) rfl 190 rfl ?_
          refine own_iloadN X146 hx (hb hby at_190) rfl 191 rfl ?_
          refine own_callS X146 hx hZ hown (own_w hw 2 rfl) (own_w hw 3 rfl) (own_w hw 4 rfl) (own_w hw 5 rfl) (by decide) e146 (rm2 l Z a0 hw [] a7 1 3 v3 [y10, y14, y18, y22] h23 n0 (by decide) (by simp) V23) (by rw [hml]; rfl) pd_0 (argsL := [(.ref a7), (.int (1 : Int32)), (.int (3 : Int32)), (.int v3)]) rfl (rest := []) rfl (hb hby at_191) 0 (Nat.le_of_eq rfl) (by decide) (by decide) (by decide) (by decide) 194 rfl (fun T150 L150 v150 X150 hQ150 => ?_)
          obtain ⟨rfl, N150, e150⟩ := hQ150
          have N151 := Fr.app N147 N150
          show own_Go p e below G (T150.setTop (mkF m 194 #[.val (.int v0), .val (.int v1), .val (.int v2), .val (.int v3), .val (.ref a7), .val (.int (1 : Int32)), .val (.int (3 : Int32)), .val (.int (2 : Int32)), .val (.int (0 : Int32)), .val (.int (0 : Int32))] [(.int (own_isd (own_slice [y10, y14, y18, y22] 1 3) v3))]))
          refine own_iload X150 hx (hb hby at_194) rfl 196 rfl ?_
          refine own_icmpN X150 hx (hb hby at_196) (teq (by rw [show own_slice [y10, y14, y18, y22] 1 3 = [y14, y18] from rfl]; simp [own_isd, c148, c149])).2 199 rfl ?_
          refine own_iconst X150 hx (hb hby at_199) (1 : Int32) rfl 200 rfl ?_
          refine own_goto X150 hx (hb hby at_200) 204 ⟨by decide, by decide⟩ ?_
          refine own_nreturn X150 hx Bd.notSynchronized hG Bd.returns (by simp) (hb hby at_204) (by decide) (by decide) ?_
          rw [e150]
          exact ⟨rfl, N151⟩
        ·
          refine own_icmpN X146 hx (hb hby at_169) (flt c149).2.2.1 172 rfl ?_
          refine own_iload X146 hx (hb hby at_172) rfl 174 rfl ?_
          refine own_ifY X146 hx (hb hby at_174) ((if0 _ _).trans (teq (by decide)).1) 181 ⟨by decide, by decide⟩ ?_
          refine own_iconst X146 hx (hb hby at_181) (0 : Int32) rfl 182 rfl ?_
          refine own_istore X146 hx (hb hby at_182) #[.val (.int v0), .val (.int v1), .val (.int v2), .val (.int v3), .val (.ref a7), .val (.int (1 : Int32)), .val (.int (3 : Int32)), .val (.int (2 : Int32)), .val (.int (0 : Int32)), .val (.int (0 : Int32))] rfl 184 rfl ?_
          refine own_aload X146 hx (hb hby at_184) rfl rfl 186 rfl ?_
          refine own_iload X146 hx (hb hby at_186) rfl 188 rfl ?_
          refine own_iload X146 hx (hb hby at_188) rfl 190 rfl ?_
          refine own_iloadN X146 hx (hb hby at_190) rfl 191 rfl ?_
          refine own_callS X146 hx hZ hown (own_w hw 2 rfl) (own_w hw 3 rfl) (own_w hw 4 rfl) (own_w hw 5 rfl) (by decide) e146 (rm2 l Z a0 hw [] a7 1 3 v3 [y10, y14, y18, y22] h23 n0 (by decide) (by simp) V23) (by rw [hml]; rfl) pd_0 (argsL := [(.ref a7), (.int (1 : Int32)), (.int (3 : Int32)), (.int v3)]) rfl (rest := []) rfl (hb hby at_191) 0 (Nat.le_of_eq rfl) (by decide) (by decide) (by decide) (by decide) 194 rfl (fun T152 L152 v152 X152 hQ152 => ?_)
          obtain ⟨rfl, N152, e152⟩ := hQ152
          have N153 := Fr.app N147 N152
          show own_Go p e below G (T152.setTop (mkF m 194 #[.val (.int v0), .val (.int v1), .val (.int v2), .val (.int v3), .val (.ref a7), .val (.int (1 : Int32)), .val (.int (3 : Int32)), .val (.int (2 : Int32)), .val (.int (0 : Int32)), .val (.int (0 : Int32))] [(.int (own_isd (own_slice [y10, y14, y18, y22] 1 3) v3))]))
          refine own_iload X152 hx (hb hby at_194) rfl 196 rfl ?_
          refine own_icmpN X152 hx (hb hby at_196) (teq (by rw [show own_slice [y10, y14, y18, y22] 1 3 = [y14, y18] from rfl]; simp [own_isd, c148, c149])).2 199 rfl ?_
          refine own_iconst X152 hx (hb hby at_199) (1 : Int32) rfl 200 rfl ?_
          refine own_goto X152 hx (hb hby at_200) 204 ⟨by decide, by decide⟩ ?_
          refine own_nreturn X152 hx Bd.notSynchronized hG Bd.returns (by simp) (hb hby at_204) (by decide) (by decide) ?_
          rw [e152]
          exact ⟨rfl, N153⟩
      ·
        refine own_ifN X146 hx (hb hby at_106) ((if0 _ _).trans (feq c148).1) 109 rfl ?_
        refine own_iload X146 hx (hb hby at_109) rfl 111 rfl ?_
        refine own_iconst X146 hx (hb hby at_111) (2 : Int32) rfl 112 rfl ?_
        refine own_icmpN X146 hx (hb hby at_112) (flt (by decide)).2.2.1 115 rfl ?_
        refine own_iload X146 hx (hb hby at_115) rfl 117 rfl ?_
        refine own_iconst X146 hx (hb hby at_117) (2 : Int32) rfl 118 rfl ?_
        refine own_icmpN X146 hx (hb hby at_118) (tlt (by decide)).2.2.2 121 rfl ?_
        refine own_aload X146 hx (hb hby at_121) rfl rfl 123 rfl ?_
        refine own_iconst X146 hx (hb hby at_123) (2 : Int32) rfl 124 rfl ?_
        refine own_baload X146 hx hZ e146 V23 2 rfl y18 rfl (hb hby at_124) 125 rfl ?_
        refine own_callS X146 hx hZ hown (own_w hw 6 rfl) (own_w hw 7 rfl) (own_w hw 8 rfl) (own_w hw 9 rfl) (by decide) e146 (rm1 l Z a0 hw [] y18 h23 n0) (by rw [hml]; rfl) pd_1 (argsL := [(.int y18)]) rfl (rest := []) rfl (hb hby at_125) 0 (Nat.le_of_eq rfl) (by decide) (by decide) (by decide) (by decide) 128 rfl (fun T154 L154 v154 X154 hQ154 => ?_)
        obtain ⟨rfl, N154, e154⟩ := hQ154
        have N155 := Fr.app N147 N154
        show own_Go p e below G (T154.setTop (mkF m 128 #[.val (.int v0), .val (.int v1), .val (.int v2), .val (.int v3), .val (.ref a7), .val (.int (1 : Int32)), .val (.int (3 : Int32)), .val (.int (2 : Int32)), .unset, .unset] [(.int (own_dig y18))]))
        by_cases c156 : (own_dig y18) = (0 : Int32)
        ·
          refine own_ifY X154 hx (hb hby at_128) ((if0 _ _).trans (teq c156).1) 157 ⟨by decide, by decide⟩ ?_
          refine own_iconst X154 hx (hb hby at_157) (0 : Int32) rfl 158 rfl ?_
          refine own_istore X154 hx (hb hby at_158) #[.val (.int v0), .val (.int v1), .val (.int v2), .val (.int v3), .val (.ref a7), .val (.int (1 : Int32)), .val (.int (3 : Int32)), .val (.int (2 : Int32)), .val (.int (0 : Int32)), .unset] rfl 160 rfl ?_
          refine own_iload X154 hx (hb hby at_160) rfl 162 rfl ?_
          refine own_iconst X154 hx (hb hby at_162) (1 : Int32) rfl 163 rfl ?_
          refine own_icmpN X154 hx (hb hby at_163) (flt (by decide)).1 166 rfl ?_
          refine own_iload X154 hx (hb hby at_166) rfl 168 rfl ?_
          refine own_iloadN X154 hx (hb hby at_168) rfl 169 rfl ?_
          by_cases c157 : v3 < (2 : Int32)
          ·
            refine own_icmpY X154 hx (hb hby at_169) (tlt c157).2.2.1 181 ⟨by decide, by decide⟩ ?_
            refine own_iconst X154 hx (hb hby at_181) (0 : Int32) rfl 182 rfl ?_
            refine own_istore X154 hx (hb hby at_182) #[.val (.int v0), .val (.int v1), .val (.int v2), .val (.int v3), .val (.ref a7), .val (.int (1 : Int32)), .val (.int (3 : Int32)), .val (.int (2 : Int32)), .val (.int (0 : Int32)), .val (.int (0 : Int32))] rfl 184 rfl ?_
            refine own_aload X154 hx (hb hby at_184) rfl rfl 186 rfl ?_
            refine own_iload X154 hx (hb hby at_186) rfl 188 rfl ?_
            refine own_iload X154 hx (hb hby at_188) rfl 190 rfl ?_
            refine own_iloadN X154 hx (hb hby at_190) rfl 191 rfl ?_
            refine own_callS X154 hx hZ hown (own_w hw 2 rfl) (own_w hw 3 rfl) (own_w hw 4 rfl) (own_w hw 5 rfl) (by decide) e154 (rm2 l Z a0 hw [] a7 1 3 v3 [y10, y14, y18, y22] h23 n0 (by decide) (by simp) V23) (by rw [hml]; rfl) pd_0 (argsL := [(.ref a7), (.int (1 : Int32)), (.int (3 : Int32)), (.int v3)]) rfl (rest := []) rfl (hb hby at_191) 0 (Nat.le_of_eq rfl) (by decide) (by decide) (by decide) (by decide) 194 rfl (fun T158 L158 v158 X158 hQ158 => ?_)
            obtain ⟨rfl, N158, e158⟩ := hQ158
            have N159 := Fr.app N155 N158
            show own_Go p e below G (T158.setTop (mkF m 194 #[.val (.int v0), .val (.int v1), .val (.int v2), .val (.int v3), .val (.ref a7), .val (.int (1 : Int32)), .val (.int (3 : Int32)), .val (.int (2 : Int32)), .val (.int (0 : Int32)), .val (.int (0 : Int32))] [(.int (own_isd (own_slice [y10, y14, y18, y22] 1 3) v3))]))
            refine own_iload X158 hx (hb hby at_194) rfl 196 rfl ?_
            refine own_icmpN X158 hx (hb hby at_196) (teq (by rw [show own_slice [y10, y14, y18, y22] 1 3 = [y14, y18] from rfl]; simp [own_isd, c148, c156, c157])).2 199 rfl ?_
            refine own_iconst X158 hx (hb hby at_199) (1 : Int32) rfl 200 rfl ?_
            refine own_goto X158 hx (hb hby at_200) 204 ⟨by decide, by decide⟩ ?_
            refine own_nreturn X158 hx Bd.notSynchronized hG Bd.returns (by simp) (hb hby at_204) (by decide) (by decide) ?_
            rw [e158]
            exact ⟨rfl, N159⟩
          ·
            refine own_icmpN X154 hx (hb hby at_169) (flt c157).2.2.1 172 rfl ?_
            refine own_iload X154 hx (hb hby at_172) rfl 174 rfl ?_
            refine own_ifY X154 hx (hb hby at_174) ((if0 _ _).trans (teq (by decide)).1) 181 ⟨by decide, by decide⟩ ?_
            refine own_iconst X154 hx (hb hby at_181) (0 : Int32) rfl 182 rfl ?_
            refine own_istore X154 hx (hb hby at_182) #[.val (.int v0), .val (.int v1), .val (.int v2), .val (.int v3), .val (.ref a7), .val (.int (1 : Int32)), .val (.int (3 : Int32)), .val (.int (2 : Int32)), .val (.int (0 : Int32)), .val (.int (0 : Int32))] rfl 184 rfl ?_
            refine own_aload X154 hx (hb hby at_184) rfl rfl 186 rfl ?_
            refine own_iload X154 hx (hb hby at_186) rfl 188 rfl ?_
            refine own_iload X154 hx (hb hby at_188) rfl 190 rfl ?_
            refine own_iloadN X154 hx (hb hby at_190) rfl 191 rfl ?_
            refine own_callS X154 hx hZ hown (own_w hw 2 rfl) (own_w hw 3 rfl) (own_w hw 4 rfl) (own_w hw 5 rfl) (by decide) e154 (rm2 l Z a0 hw [] a7 1 3 v3 [y10, y14, y18, y22] h23 n0 (by decide) (by simp) V23) (by rw [hml]; rfl) pd_0 (argsL := [(.ref a7), (.int (1 : Int32)), (.int (3 : Int32)), (.int v3)]) rfl (rest := []) rfl (hb hby at_191) 0 (Nat.le_of_eq rfl) (by decide) (by decide) (by decide) (by decide) 194 rfl (fun T160 L160 v160 X160 hQ160 => ?_)
            obtain ⟨rfl, N160, e160⟩ := hQ160
            have N161 := Fr.app N155 N160
            show own_Go p e below G (T160.setTop (mkF m 194 #[.val (.int v0), .val (.int v1), .val (.int v2), .val (.int v3), .val (.ref a7), .val (.int (1 : Int32)), .val (.int (3 : Int32)), .val (.int (2 : Int32)), .val (.int (0 : Int32)), .val (.int (0 : Int32))] [(.int (own_isd (own_slice [y10, y14, y18, y22] 1 3) v3))]))
            refine own_iload X160 hx (hb hby at_194) rfl 196 rfl ?_
            refine own_icmpN X160 hx (hb hby at_196) (teq (by rw [show own_slice [y10, y14, y18, y22] 1 3 = [y14, y18] from rfl]; simp [own_isd, c148, c156, c157])).2 199 rfl ?_
            refine own_iconst X160 hx (hb hby at_199) (1 : Int32) rfl 200 rfl ?_
            refine own_goto X160 hx (hb hby at_200) 204 ⟨by decide, by decide⟩ ?_
            refine own_nreturn X160 hx Bd.notSynchronized hG Bd.returns (by simp) (hb hby at_204) (by decide) (by decide) ?_
            rw [e160]
            exact ⟨rfl, N161⟩
        ·
          refine own_ifN X154 hx (hb hby at_128) ((if0 _ _).trans (feq c156).1) 131 rfl ?_
          refine own_iload X154 hx (hb hby at_131) rfl 133 rfl ?_
          refine own_iconst X154 hx (hb hby at_133) (3 : Int32) rfl 134 rfl ?_
          refine own_icmpN X154 hx (hb hby at_134) (flt (by decide)).2.2.1 137 rfl ?_
          refine own_iload X154 hx (hb hby at_137) rfl 139 rfl ?_
          refine own_iconst X154 hx (hb hby at_139) (3 : Int32) rfl 140 rfl ?_
          refine own_icmpY X154 hx (hb hby at_140) (flt (by decide)).2.2.2 153 ⟨by decide, by decide⟩ ?_
          refine own_iconst X154 hx (hb hby at_153) (1 : Int32) rfl 154 rfl ?_
          refine own_goto X154 hx (hb hby at_154) 158 ⟨by decide, by decide⟩ ?_
          refine own_istore X154 hx (hb hby at_158) #[.val (.int v0), .val (.int v1), .val (.int v2), .val (.int v3), .val (.ref a7), .val (.int (1 : Int32)), .val (.int (3 : Int32)), .val (.int (2 : Int32)), .val (.int (1 : Int32)), .unset] rfl 160 rfl ?_
          refine own_iload X154 hx (hb hby at_160) rfl 162 rfl ?_
          refine own_iconst X154 hx (hb hby at_162) (1 : Int32) rfl 163 rfl ?_
          refine own_icmpN X154 hx (hb hby at_163) (flt (by decide)).1 166 rfl ?_
          refine own_iload X154 hx (hb hby at_166) rfl 168 rfl ?_
          refine own_iloadN X154 hx (hb hby at_168) rfl 169 rfl ?_
          by_cases c162 : v3 < (2 : Int32)
          ·
            refine own_icmpY X154 hx (hb hby at_169) (tlt c162).2.2.1 181 ⟨by decide, by decide⟩ ?_
            refine own_iconst X154 hx (hb hby at_181) (0 : Int32) rfl 182 rfl ?_
            refine own_istore X154 hx (hb hby at_182) #[.val (.int v0), .val (.int v1), .val (.int v2), .val (.int v3), .val (.ref a7), .val (.int (1 : Int32)), .val (.int (3 : Int32)), .val (.int (2 : Int32)), .val (.int (1 : Int32)), .val (.int (0 : Int32))] rfl 184 rfl ?_
            refine own_aload X154 hx (hb hby at_184) rfl rfl 186 rfl ?_
            refine own_iload X154 hx (hb hby at_186) rfl 188 rfl ?_
            refine own_iload X154 hx (hb hby at_188) rfl 190 rfl ?_
            refine own_iloadN X154 hx (hb hby at_190) rfl 191 rfl ?_
            refine own_callS X154 hx hZ hown (own_w hw 2 rfl) (own_w hw 3 rfl) (own_w hw 4 rfl) (own_w hw 5 rfl) (by decide) e154 (rm2 l Z a0 hw [] a7 1 3 v3 [y10, y14, y18, y22] h23 n0 (by decide) (by simp) V23) (by rw [hml]; rfl) pd_0 (argsL := [(.ref a7), (.int (1 : Int32)), (.int (3 : Int32)), (.int v3)]) rfl (rest := []) rfl (hb hby at_191) 0 (Nat.le_of_eq rfl) (by decide) (by decide) (by decide) (by decide) 194 rfl (fun T163 L163 v163 X163 hQ163 => ?_)
            obtain ⟨rfl, N163, e163⟩ := hQ163
            have N164 := Fr.app N155 N163
            show own_Go p e below G (T163.setTop (mkF m 194 #[.val (.int v0), .val (.int v1), .val (.int v2), .val (.int v3), .val (.ref a7), .val (.int (1 : Int32)), .val (.int (3 : Int32)), .val (.int (2 : Int32)), .val (.int (1 : Int32)), .val (.int (0 : Int32))] [(.int (own_isd (own_slice [y10, y14, y18, y22] 1 3) v3))]))
            refine own_iload X163 hx (hb hby at_194) rfl 196 rfl ?_
            refine own_icmpN X163 hx (hb hby at_196) (teq (by rw [show own_slice [y10, y14, y18, y22] 1 3 = [y14, y18] from rfl]; simp [own_isd, c148, c156, c162])).2 199 rfl ?_
            refine own_iconst X163 hx (hb hby at_199) (1 : Int32) rfl 200 rfl ?_
            refine own_goto X163 hx (hb hby at_200) 204 ⟨by decide, by decide⟩ ?_
            refine own_nreturn X163 hx Bd.notSynchronized hG Bd.returns (by simp) (hb hby at_204) (by decide) (by decide) ?_
            rw [e163]
            exact ⟨rfl, N164⟩
          ·
            refine own_icmpN X154 hx (hb hby at_169) (flt c162).2.2.1 172 rfl ?_
            refine own_iload X154 hx (hb hby at_172) rfl 174 rfl ?_
            refine own_ifN X154 hx (hb hby at_174) ((if0 _ _).trans (feq (by decide)).1) 177 rfl ?_
            refine own_iconst X154 hx (hb hby at_177) (1 : Int32) rfl 178 rfl ?_
            refine own_goto X154 hx (hb hby at_178) 182 ⟨by decide, by decide⟩ ?_
            refine own_istore X154 hx (hb hby at_182) #[.val (.int v0), .val (.int v1), .val (.int v2), .val (.int v3), .val (.ref a7), .val (.int (1 : Int32)), .val (.int (3 : Int32)), .val (.int (2 : Int32)), .val (.int (1 : Int32)), .val (.int (1 : Int32))] rfl 184 rfl ?_
            refine own_aload X154 hx (hb hby at_184) rfl rfl 186 rfl ?_
            refine own_iload X154 hx (hb hby at_186) rfl 188 rfl ?_
            refine own_iload X154 hx (hb hby at_188) rfl 190 rfl ?_
            refine own_iloadN X154 hx (hb hby at_190) rfl 191 rfl ?_
            refine own_callS X154 hx hZ hown (own_w hw 2 rfl) (own_w hw 3 rfl) (own_w hw 4 rfl) (own_w hw 5 rfl) (by decide) e154 (rm2 l Z a0 hw [] a7 1 3 v3 [y10, y14, y18, y22] h23 n0 (by decide) (by simp) V23) (by rw [hml]; rfl) pd_0 (argsL := [(.ref a7), (.int (1 : Int32)), (.int (3 : Int32)), (.int v3)]) rfl (rest := []) rfl (hb hby at_191) 0 (Nat.le_of_eq rfl) (by decide) (by decide) (by decide) (by decide) 194 rfl (fun T165 L165 v165 X165 hQ165 => ?_)
            obtain ⟨rfl, N165, e165⟩ := hQ165
            have N166 := Fr.app N155 N165
            show own_Go p e below G (T165.setTop (mkF m 194 #[.val (.int v0), .val (.int v1), .val (.int v2), .val (.int v3), .val (.ref a7), .val (.int (1 : Int32)), .val (.int (3 : Int32)), .val (.int (2 : Int32)), .val (.int (1 : Int32)), .val (.int (1 : Int32))] [(.int (own_isd (own_slice [y10, y14, y18, y22] 1 3) v3))]))
            refine own_iload X165 hx (hb hby at_194) rfl 196 rfl ?_
            refine own_icmpN X165 hx (hb hby at_196) (teq (by rw [show own_slice [y10, y14, y18, y22] 1 3 = [y14, y18] from rfl]; simp [own_isd, c148, c156, c162])).2 199 rfl ?_
            refine own_iconst X165 hx (hb hby at_199) (1 : Int32) rfl 200 rfl ?_
            refine own_goto X165 hx (hb hby at_200) 204 ⟨by decide, by decide⟩ ?_
            refine own_nreturn X165 hx Bd.notSynchronized hG Bd.returns (by simp) (hb hby at_204) (by decide) (by decide) ?_
            rw [e165]
            exact ⟨rfl, N166⟩
    ·
      refine own_iadd X23 hx (hb hby at_57) 58 rfl ?_
      show own_Go p e below G (T23.setTop (mkF m 58 #[.val (.int v0), .val (.int v1), .val (.int v2), .val (.int v3), .val (.ref a7), .val (.int (1 : Int32)), .unset, .unset, .unset, .unset] [(.int (4 : Int32))]))
      refine own_istore X23 hx (hb hby at_58) #[.val (.int v0), .val (.int v1), .val (.int v2), .val (.int v3), .val (.ref a7), .val (.int (1 : Int32)), .val (.int (4 : Int32)), .unset, .unset, .unset] rfl 60 rfl ?_
      refine own_iload X23 hx (hb hby at_60) rfl 62 rfl ?_
      refine own_iload X23 hx (hb hby at_62) rfl 64 rfl ?_
      refine own_isub X23 hx (hb hby at_64) 65 rfl ?_
      show own_Go p e below G (T23.setTop (mkF m 65 #[.val (.int v0), .val (.int v1), .val (.int v2), .val (.int v3), .val (.ref a7), .val (.int (1 : Int32)), .val (.int (4 : Int32)), .unset, .unset, .unset] [(.int (3 : Int32))]))
      refine own_istore X23 hx (hb hby at_65) #[.val (.int v0), .val (.int v1), .val (.int v2), .val (.int v3), .val (.ref a7), .val (.int (1 : Int32)), .val (.int (4 : Int32)), .val (.int (3 : Int32)), .unset, .unset] rfl 67 rfl ?_
      refine own_iload X23 hx (hb hby at_67) rfl 69 rfl ?_
      refine own_ifY X23 hx (hb hby at_69) ((if0 _ _).trans (tlt (by decide)).2.2.1) 87 ⟨by decide, by decide⟩ ?_
      refine own_iload X23 hx (hb hby at_87) rfl 89 rfl ?_
      refine own_iconst X23 hx (hb hby at_89) (1 : Int32) rfl 90 rfl ?_
      refine own_icmpN X23 hx (hb hby at_90) (flt (by decide)).2.2.1 93 rfl ?_
      refine own_iload X23 hx (hb hby at_93) rfl 95 rfl ?_
      refine own_iconst X23 hx (hb hby at_95) (1 : Int32) rfl 96 rfl ?_
      refine own_icmpN X23 hx (hb hby at_96) (tlt (by decide)).2.2.2 99 rfl ?_
      refine own_aload X23 hx (hb hby at_99) rfl rfl 101 rfl ?_
      refine own_iconst X23 hx (hb hby at_101) (1 : Int32) rfl 102 rfl ?_
      refine own_baload X23 hx hZ e23 V23 1 rfl y14 rfl (hb hby at_102) 103 rfl ?_
      refine own_callS X23 hx hZ hown (own_w hw 6 rfl) (own_w hw 7 rfl) (own_w hw 8 rfl) (own_w hw 9 rfl) (by decide) e23 (rm1 l Z a0 hw [] y14 h23 n0) (by rw [hml]; rfl) pd_1 (argsL := [(.int y14)]) rfl (rest := []) rfl (hb hby at_103) 0 (Nat.le_of_eq rfl) (by decide) (by decide) (by decide) (by decide) 106 rfl (fun T167 L167 v167 X167 hQ167 => ?_)
      obtain ⟨rfl, N167, e167⟩ := hQ167
      have N168 := Fr.app N24 N167
      show own_Go p e below G (T167.setTop (mkF m 106 #[.val (.int v0), .val (.int v1), .val (.int v2), .val (.int v3), .val (.ref a7), .val (.int (1 : Int32)), .val (.int (4 : Int32)), .val (.int (3 : Int32)), .unset, .unset] [(.int (own_dig y14))]))
      by_cases c169 : (own_dig y14) = (0 : Int32)
      ·
        refine own_ifY X167 hx (hb hby at_106) ((if0 _ _).trans (teq c169).1) 157 ⟨by decide, by decide⟩ ?_
        refine own_iconst X167 hx (hb hby at_157) (0 : Int32) rfl 158 rfl ?_
        refine own_istore X167 hx (hb hby at_158) #[.val (.int v0), .val (.int v1), .val (.int v2), .val (.int v3), .val (.ref a7), .val (.int (1 : Int32)), .val (.int (4 : Int32)), .val (.int (3 : Int32)), .val (.int (0 : Int32)), .unset] rfl 160 rfl ?_
        refine own_iload X167 hx (hb hby at_160) rfl 162 rfl ?_
        refine own_iconst X167 hx (hb hby at_162) (1 : Int32) rfl 163 rfl ?_
        refine own_icmpN X167 hx (hb hby at_163) (flt (by decide)).1 166 rfl ?_
        refine own_iload X167 hx (hb hby at_166) rfl 168 rfl ?_
        refine own_iloadN X167 hx (hb hby at_168) rfl 169 rfl ?_
        by_cases c170 : v3 < (3 : Int32)
        ·
          refine own_icmpY X167 hx (hb hby at_169) (tlt c170).2.2.1 181 ⟨by decide, by decide⟩ ?_
          refine own_iconst X167 hx (hb hby at_181) (0 : Int32) rfl 182 rfl ?_
          refine own_istore X167 hx (hb hby at_182) #[.val (.int v0), .val (.int v1), .val (.int v2), .val (.int v3), .val (.ref a7), .val (.int (1 : Int32)), .val (.int (4 : Int32)), .val (.int (3 : Int32)), .val (.int (0 : Int32)), .val (.int (0 : Int32))] rfl 184 rfl ?_
          refine own_aload X167 hx (hb hby at_184) rfl rfl 186 rfl ?_
          refine own_iload X167 hx (hb hby at_186) rfl 188 rfl ?_
          refine own_iload X167 hx (hb hby at_188) rfl 190 rfl ?_
          refine own_iloadN X167 hx (hb hby at_190) rfl 191 rfl ?_
          refine own_callS X167 hx hZ hown (own_w hw 2 rfl) (own_w hw 3 rfl) (own_w hw 4 rfl) (own_w hw 5 rfl) (by decide) e167 (rm2 l Z a0 hw [] a7 1 4 v3 [y10, y14, y18, y22] h23 n0 (by decide) (by simp) V23) (by rw [hml]; rfl) pd_0 (argsL := [(.ref a7), (.int (1 : Int32)), (.int (4 : Int32)), (.int v3)]) rfl (rest := []) rfl (hb hby at_191) 0 (Nat.le_of_eq rfl) (by decide) (by decide) (by decide) (by decide) 194 rfl (fun T171 L171 v171 X171 hQ171 => ?_)
          obtain ⟨rfl, N171, e171⟩ := hQ171
          have N172 := Fr.app N168 N171
          show own_Go p e below G (T171.setTop (mkF m 194 #[.val (.int v0), .val (.int v1), .val (.int v2), .val (.int v3), .val (.ref a7), .val (.int (1 : Int32)), .val (.int (4 : Int32)), .val (.int (3 : Int32)), .val (.int (0 : Int32)), .val (.int (0 : Int32))] [(.int (own_isd (own_slice [y10, y14, y18, y22] 1 4) v3))]))
          refine own_iload X171 hx (hb hby at_194) rfl 196 rfl ?_
          refine own_icmpN X171 hx (hb hby at_196) (teq (by rw [show own_slice [y10, y14, y18, y22] 1 4 = [y14, y18, y22] from rfl]; simp [own_isd, c169, c170])).2 199 rfl ?_
          refine own_iconst X171 hx (hb hby at_199) (1 : Int32) rfl 200 rfl ?_
          refine own_goto X171 hx (hb hby at_200) 204 ⟨by decide, by decide⟩ ?_
          refine own_nreturn X171 hx Bd.notSynchronized hG Bd.returns (by simp) (hb hby at_204) (by decide) (by decide) ?_
          rw [e171]
          exact ⟨rfl, N172⟩
        ·
          refine own_icmpN X167 hx (hb hby at_169) (flt c170).2.2.1 172 rfl ?_
          refine own_iload X167 hx (hb hby at_172) rfl 174 rfl ?_
          refine own_ifY X167 hx (hb hby at_174) ((if0 _ _).trans (teq (by decide)).1) 181 ⟨by decide, by decide⟩ ?_
          refine own_iconst X167 hx (hb hby at_181) (0 : Int32) rfl 182 rfl ?_
          refine own_istore X167 hx (hb hby at_182) #[.val (.int v0), .val (.int v1), .val (.int v2), .val (.int v3), .val (.ref a7), .val (.int (1 : Int32)), .val (.int (4 : Int32)), .val (.int (3 : Int32)), .val (.int (0 : Int32)), .val (.int (0 : Int32))] rfl 184 rfl ?_
          refine own_aload X167 hx (hb hby at_184) rfl rfl 186 rfl ?_
          refine own_iload X167 hx (hb hby at_186) rfl 188 rfl ?_
          refine own_iload X167 hx (hb hby at_188) rfl 190 rfl ?_
          refine own_iloadN X167 hx (hb hby at_190) rfl 191 rfl ?_
          refine own_callS X167 hx hZ hown (own_w hw 2 rfl) (own_w hw 3 rfl) (own_w hw 4 rfl) (own_w hw 5 rfl) (by decide) e167 (rm2 l Z a0 hw [] a7 1 4 v3 [y10, y14, y18, y22] h23 n0 (by decide) (by simp) V23) (by rw [hml]; rfl) pd_0 (argsL := [(.ref a7), (.int (1 : Int32)), (.int (4 : Int32)), (.int v3)]) rfl (rest := []) rfl (hb hby at_191) 0 (Nat.le_of_eq rfl) (by decide) (by decide) (by decide) (by decide) 194 rfl (fun T173 L173 v173 X173 hQ173 => ?_)
          obtain ⟨rfl, N173, e173⟩ := hQ173
          have N174 := Fr.app N168 N173
          show own_Go p e below G (T173.setTop (mkF m 194 #[.val (.int v0), .val (.int v1), .val (.int v2), .val (.int v3), .val (.ref a7), .val (.int (1 : Int32)), .val (.int (4 : Int32)), .val (.int (3 : Int32)), .val (.int (0 : Int32)), .val (.int (0 : Int32))] [(.int (own_isd (own_slice [y10, y14, y18, y22] 1 4) v3))]))
          refine own_iload X173 hx (hb hby at_194) rfl 196 rfl ?_
          refine own_icmpN X173 hx (hb hby at_196) (teq (by rw [show own_slice [y10, y14, y18, y22] 1 4 = [y14, y18, y22] from rfl]; simp [own_isd, c169, c170])).2 199 rfl ?_
          refine own_iconst X173 hx (hb hby at_199) (1 : Int32) rfl 200 rfl ?_
          refine own_goto X173 hx (hb hby at_200) 204 ⟨by decide, by decide⟩ ?_
          refine own_nreturn X173 hx Bd.notSynchronized hG Bd.returns (by simp) (hb hby at_204) (by decide) (by decide) ?_
          rw [e173]
          exact ⟨rfl, N174⟩
      ·
        refine own_ifN X167 hx (hb hby at_106) ((if0 _ _).trans (feq c169).1) 109 rfl ?_
        refine own_iload X167 hx (hb hby at_109) rfl 111 rfl ?_
        refine own_iconst X167 hx (hb hby at_111) (2 : Int32) rfl 112 rfl ?_
        refine own_icmpN X167 hx (hb hby at_112) (flt (by decide)).2.2.1 115 rfl ?_
        refine own_iload X167 hx (hb hby at_115) rfl 117 rfl ?_
        refine own_iconst X167 hx (hb hby at_117) (2 : Int32) rfl 118 rfl ?_
        refine own_icmpN X167 hx (hb hby at_118) (tlt (by decide)).2.2.2 121 rfl ?_
        refine own_aload X167 hx (hb hby at_121) rfl rfl 123 rfl ?_
        refine own_iconst X167 hx (hb hby at_123) (2 : Int32) rfl 124 rfl ?_
        refine own_baload X167 hx hZ e167 V23 2 rfl y18 rfl (hb hby at_124) 125 rfl ?_
        refine own_callS X167 hx hZ hown (own_w hw 6 rfl) (own_w hw 7 rfl) (own_w hw 8 rfl) (own_w hw 9 rfl) (by decide) e167 (rm1 l Z a0 hw [] y18 h23 n0) (by rw [hml]; rfl) pd_1 (argsL := [(.int y18)]) rfl (rest := []) rfl (hb hby at_125) 0 (Nat.le_of_eq rfl) (by decide) (by decide) (by decide) (by decide) 128 rfl (fun T175 L175 v175 X175 hQ175 => ?_)
        obtain ⟨rfl, N175, e175⟩ := hQ175
        have N176 := Fr.app N168 N175
        show own_Go p e below G (T175.setTop (mkF m 128 #[.val (.int v0), .val (.int v1), .val (.int v2), .val (.int v3), .val (.ref a7), .val (.int (1 : Int32)), .val (.int (4 : Int32)), .val (.int (3 : Int32)), .unset, .unset] [(.int (own_dig y18))]))
        by_cases c177 : (own_dig y18) = (0 : Int32)
        ·
          refine own_ifY X175 hx (hb hby at_128) ((if0 _ _).trans (teq c177).1) 157 ⟨by decide, by decide⟩ ?_
          refine own_iconst X175 hx (hb hby at_157) (0 : Int32) rfl 158 rfl ?_
          refine own_istore X175 hx (hb hby at_158) #[.val (.int v0), .val (.int v1), .val (.int v2), .val (.int v3), .val (.ref a7), .val (.int (1 : Int32)), .val (.int (4 : Int32)), .val (.int (3 : Int32)), .val (.int (0 : Int32)), .unset] rfl 160 rfl ?_
          refine own_iload X175 hx (hb hby at_160) rfl 162 rfl ?_
          refine own_iconst X175 hx (hb hby at_162) (1 : Int32) rfl 163 rfl ?_
          refine own_icmpN X175 hx (hb hby at_163) (flt (by decide)).1 166 rfl ?_
          refine own_iload X175 hx (hb hby at_166) rfl 168 rfl ?_
          refine own_iloadN X175 hx (hb hby at_168) rfl 169 rfl ?_
          by_cases c178 : v3 < (3 : Int32)
          ·
            refine own_icmpY X175 hx (hb hby at_169) (tlt c178).2.2.1 181 ⟨by decide, by decide⟩ ?_
            refine own_iconst X175 hx (hb hby at_181) (0 : Int32) rfl 182 rfl ?_
            refine own_istore X175 hx (hb hby at_182) #[.val (.int v0), .val (.int v1), .val (.int v2), .val (.int v3), .val (.ref a7), .val (.int (1 : Int32)), .val (.int (4 : Int32)), .val (.int (3 : Int32)), .val (.int (0 : Int32)), .val (.int (0 : Int32))] rfl 184 rfl ?_
            refine own_aload X175 hx (hb hby at_184) rfl rfl 186 rfl ?_
            refine own_iload X175 hx (hb hby at_186) rfl 188 rfl ?_
            refine own_iload X175 hx (hb hby at_188) rfl 190 rfl ?_
            refine own_iloadN X175 hx (hb hby at_190) rfl 191 rfl ?_
            refine own_callS X175 hx hZ hown (own_w hw 2 rfl) (own_w hw 3 rfl) (own_w hw 4 rfl) (own_w hw 5 rfl) (by decide) e175 (rm2 l Z a0 hw [] a7 1 4 v3 [y10, y14, y18, y22] h23 n0 (by decide) (by simp) V23) (by rw [hml]; rfl) pd_0 (argsL := [(.ref a7), (.int (1 : Int32)), (.int (4 : Int32)), (.int v3)]) rfl (rest := []) rfl (hb hby at_191) 0 (Nat.le_of_eq rfl) (by decide) (by decide) (by decide) (by decide) 194 rfl (fun T179 L179 v179 X179 hQ179 => ?_)
            obtain ⟨rfl, N179, e179⟩ := hQ179
            have N180 := Fr.app N176 N179
            show own_Go p e below G (T179.setTop (mkF m 194 #[.val (.int v0), .val (.int v1), .val (.int v2), .val (.int v3), .val (.ref a7), .val (.int (1 : Int32)), .val (.int (4 : Int32)), .val (.int (3 : Int32)), .val (.int (0 : Int32)), .val (.int (0 : Int32))] [(.int (own_isd (own_slice [y10, y14, y18, y22] 1 4) v3))]))
            refine own_iload X179 hx (hb hby at_194) rfl 196 rfl ?_
            refine own_icmpN X179 hx (hb hby at_196) (teq (by rw [show own_slice [y10, y14, y18, y22] 1 4 = [y14, y18, y22] from rfl]; simp [own_isd, c169, c177, c178])).2 199 rfl ?_
            refine own_iconst X179 hx (hb hby at_199) (1 : Int32) rfl 200 rfl ?_
            refine own_goto X179 hx (hb hby at_200) 204 ⟨by decide, by decide⟩ ?_
            refine own_nreturn X179 hx Bd.notSynchronized hG Bd.returns (by simp) (hb hby at_204) (by decide) (by decide) ?_
            rw [e179]
            exact ⟨rfl, N180⟩
          ·
            refine own_icmpN X175 hx (hb hby at_169) (flt c178).2.2.1 172 rfl ?_
            refine own_iload X175 hx (hb hby at_172) rfl 174 rfl ?_
            refine own_ifY X175 hx (hb hby at_174) ((if0 _ _).trans (teq (by decide)).1) 181 ⟨by decide, by decide⟩ ?_
            refine own_iconst X175 hx (hb hby at_181) (0 : Int32) rfl 182 rfl ?_
            refine own_istore X175 hx (hb hby at_182) #[.val (.int v0), .val (.int v1), .val (.int v2), .val (.int v3), .val (.ref a7), .val (.int (1 : Int32)), .val (.int (4 : Int32)), .val (.int (3 : Int32)), .val (.int (0 : Int32)), .val (.int (0 : Int32))] rfl 184 rfl ?_
            refine own_aload X175 hx (hb hby at_184) rfl rfl 186 rfl ?_
            refine own_iload X175 hx (hb hby at_186) rfl 188 rfl ?_
            refine own_iload X175 hx (hb hby at_188) rfl 190 rfl ?_
            refine own_iloadN X175 hx (hb hby at_190) rfl 191 rfl ?_
            refine own_callS X175 hx hZ hown (own_w hw 2 rfl) (own_w hw 3 rfl) (own_w hw 4 rfl) (own_w hw 5 rfl) (by decide) e175 (rm2 l Z a0 hw [] a7 1 4 v3 [y10, y14, y18, y22] h23 n0 (by decide) (by simp) V23) (by rw [hml]; rfl) pd_0 (argsL := [(.ref a7), (.int (1 : Int32)), (.int (4 : Int32)), (.int v3)]) rfl (rest := []) rfl (hb hby at_191) 0 (Nat.le_of_eq rfl) (by decide) (by decide) (by decide) (by decide) 194 rfl (fun T181 L181 v181 X181 hQ181 => ?_)
            obtain ⟨rfl, N181, e181⟩ := hQ181
            have N182 := Fr.app N176 N181
            show own_Go p e below G (T181.setTop (mkF m 194 #[.val (.int v0), .val (.int v1), .val (.int v2), .val (.int v3), .val (.ref a7), .val (.int (1 : Int32)), .val (.int (4 : Int32)), .val (.int (3 : Int32)), .val (.int (0 : Int32)), .val (.int (0 : Int32))] [(.int (own_isd (own_slice [y10, y14, y18, y22] 1 4) v3))]))
            refine own_iload X181 hx (hb hby at_194) rfl 196 rfl ?_
            refine own_icmpN X181 hx (hb hby at_196) (teq (by rw [show own_slice [y10, y14, y18, y22] 1 4 = [y14, y18, y22] from rfl]; simp [own_isd, c169, c177, c178])).2 199 rfl ?_
            refine own_iconst X181 hx (hb hby at_199) (1 : Int32) rfl 200 rfl ?_
            refine own_goto X181 hx (hb hby at_200) 204 ⟨by decide, by decide⟩ ?_
            refine own_nreturn X181 hx Bd.notSynchronized hG Bd.returns (by simp) (hb hby at_204) (by decide) (by decide) ?_
            rw [e181]
            exact ⟨rfl, N182⟩
        ·
          refine own_ifN X175 hx (hb hby at_128) ((if0 _ _).trans (feq c177).1) 131 rfl ?_
          refine own_iload X175 hx (hb hby at_131) rfl 133 rfl ?_
          refine own_iconst X175 hx (hb hby at_133) (3 : Int32) rfl 134 rfl ?_
          refine own_icmpN X175 hx (hb hby at_134) (flt (by decide)).2.2.1 137 rfl ?_
          refine own_iload X175 hx (hb hby at_137) rfl 139 rfl ?_
          refine own_iconst X175 hx (hb hby at_139) (3 : Int32) rfl 140 rfl ?_
          refine own_icmpN X175 hx (hb hby at_140) (tlt (by decide)).2.2.2 143 rfl ?_
          refine own_aload X175 hx (hb hby at_143) rfl rfl 145 rfl ?_
          refine own_iconst X175 hx (hb hby at_145) (3 : Int32) rfl 146 rfl ?_
          refine own_baload X175 hx hZ e175 V23 3 rfl y22 rfl (hb hby at_146) 147 rfl ?_
          refine own_callS X175 hx hZ hown (own_w hw 6 rfl) (own_w hw 7 rfl) (own_w hw 8 rfl) (own_w hw 9 rfl) (by decide) e175 (rm1 l Z a0 hw [] y22 h23 n0) (by rw [hml]; rfl) pd_1 (argsL := [(.int y22)]) rfl (rest := []) rfl (hb hby at_147) 0 (Nat.le_of_eq rfl) (by decide) (by decide) (by decide) (by decide) 150 rfl (fun T183 L183 v183 X183 hQ183 => ?_)
          obtain ⟨rfl, N183, e183⟩ := hQ183
          have N184 := Fr.app N176 N183
          show own_Go p e below G (T183.setTop (mkF m 150 #[.val (.int v0), .val (.int v1), .val (.int v2), .val (.int v3), .val (.ref a7), .val (.int (1 : Int32)), .val (.int (4 : Int32)), .val (.int (3 : Int32)), .unset, .unset] [(.int (own_dig y22))]))
          by_cases c185 : (own_dig y22) = (0 : Int32)
          ·
            refine own_ifY X183 hx (hb hby at_150) ((if0 _ _).trans (teq c185).1) 157 ⟨by decide, by decide⟩ ?_
            refine own_iconst X183 hx (hb hby at_157) (0 : Int32) rfl 158 rfl ?_
            refine own_istore X183 hx (hb hby at_158) #[.val (.int v0), .val (.int v1), .val (.int v2), .val (.int v3), .val (.ref a7), .val (.int (1 : Int32)), .val (.int (4 : Int32)), .val (.int (3 : Int32)), .val (.int (0 : Int32)), .unset] rfl 160 rfl ?_
            refine own_iload X183 hx (hb hby at_160) rfl 162 rfl ?_
            refine own_iconst X183 hx (hb hby at_162) (1 : Int32) rfl 163 rfl ?_
            refine own_icmpN X183 hx (hb hby at_163) (flt (by decide)).1 166 rfl ?_
            refine own_iload X183 hx (hb hby at_166) rfl 168 rfl ?_
            refine own_iloadN X183 hx (hb hby at_168) rfl 169 rfl ?_
            by_cases c186 : v3 < (3 : Int32)
            ·
              refine own_icmpY X183 hx (hb hby at_169) (tlt c186).2.2.1 181 ⟨by decide, by decide⟩ ?_
              refine own_iconst X183 hx (hb hby at_181) (0 : Int32) rfl 182 rfl ?_
              refine own_istore X183 hx (hb hby at_182) #[.val (.int v0), .val (.int v1), .val (.int v2), .val (.int v3), .val (.ref a7), .val (.int (1 : Int32)), .val (.int (4 : Int32)), .val (.int (3 : Int32)), .val (.int (0 : Int32)), .val (.int (0 : Int32))] rfl 184 rfl ?_
              refine own_aload X183 hx (hb hby at_184) rfl rfl 186 rfl ?_
              refine own_iload X183 hx (hb hby at_186) rfl 188 rfl ?_
              refine own_iload X183 hx (hb hby at_188) rfl 190 rfl ?_
              refine own_iloadN X183 hx (hb hby at_190) rfl 191 rfl ?_
              refine own_callS X183 hx hZ hown (own_w hw 2 rfl) (own_w hw 3 rfl) (own_w hw 4 rfl) (own_w hw 5 rfl) (by decide) e183 (rm2 l Z a0 hw [] a7 1 4 v3 [y10, y14, y18, y22] h23 n0 (by decide) (by simp) V23) (by rw [hml]; rfl) pd_0 (argsL := [(.ref a7), (.int (1 : Int32)), (.int (4 : Int32)), (.int v3)]) rfl (rest := []) rfl (hb hby at_191) 0 (Nat.le_of_eq rfl) (by decide) (by decide) (by decide) (by decide) 194 rfl (fun T187 L187 v187 X187 hQ187 => ?_)
              obtain ⟨rfl, N187, e187⟩ := hQ187
              have N188 := Fr.app N184 N187
              show own_Go p e below G (T187.setTop (mkF m 194 #[.val (.int v0), .val (.int v1), .val (.int v2), .val (.int v3), .val (.ref a7), .val (.int (1 : Int32)), .val (.int (4 : Int32)), .val (.int (3 : Int32)), .val (.int (0 : Int32)), .val (.int (0 : Int32))] [(.int (own_isd (own_slice [y10, y14, y18, y22] 1 4) v3))]))
              refine own_iload X187 hx (hb hby at_194) rfl 196 rfl ?_
              refine own_icmpN X187 hx (hb hby at_196) (teq (by rw [show own_slice [y10, y14, y18, y22] 1 4 = [y14, y18, y22] from rfl]; simp [own_isd, c169, c177, c185, c186])).2 199 rfl ?_
              refine own_iconst X187 hx (hb hby at_199) (1 : Int32) rfl 200 rfl ?_
              refine own_goto X187 hx (hb hby at_200) 204 ⟨by decide, by decide⟩ ?_
              refine own_nreturn X187 hx Bd.notSynchronized hG Bd.returns (by simp) (hb hby at_204) (by decide) (by decide) ?_
              rw [e187]
              exact ⟨rfl, N188⟩
            ·
              refine own_icmpN X183 hx (hb hby at_169) (flt c186).2.2.1 172 rfl ?_
              refine own_iload X183 hx (hb hby at_172) rfl 174 rfl ?_
              refine own_ifY X183 hx (hb hby at_174) ((if0 _ _).trans (teq (by decide)).1) 181 ⟨by decide, by decide⟩ ?_
              refine own_iconst X183 hx (hb hby at_181) (0 : Int32) rfl 182 rfl ?_
              refine own_istore X183 hx (hb hby at_182) #[.val (.int v0), .val (.int v1), .val (.int v2), .val (.int v3), .val (.ref a7), .val (.int (1 : Int32)), .val (.int (4 : Int32)), .val (.int (3 : Int32)), .val (.int (0 : Int32)), .val (.int (0 : Int32))] rfl 184 rfl ?_
              refine own_aload X183 hx (hb hby at_184) rfl rfl 186 rfl ?_
              refine own_iload X183 hx (hb hby at_186) rfl 188 rfl ?_
              refine own_iload X183 hx (hb hby at_188) rfl 190 rfl ?_
              refine own_iloadN X183 hx (hb hby at_190) rfl 191 rfl ?_
              refine own_callS X183 hx hZ hown (own_w hw 2 rfl) (own_w hw 3 rfl) (own_w hw 4 rfl) (own_w hw 5 rfl) (by decide) e183 (rm2 l Z a0 hw [] a7 1 4 v3 [y10, y14, y18, y22] h23 n0 (by decide) (by simp) V23) (by rw [hml]; rfl) pd_0 (argsL := [(.ref a7), (.int (1 : Int32)), (.int (4 : Int32)), (.int v3)]) rfl (rest := []) rfl (hb hby at_191) 0 (Nat.le_of_eq rfl) (by decide) (by decide) (by decide) (by decide) 194 rfl (fun T189 L189 v189 X189 hQ189 => ?_)
              obtain ⟨rfl, N189, e189⟩ := hQ189
              have N190 := Fr.app N184 N189
              show own_Go p e below G (T189.setTop (mkF m 194 #[.val (.int v0), .val (.int v1), .val (.int v2), .val (.int v3), .val (.ref a7), .val (.int (1 : Int32)), .val (.int (4 : Int32)), .val (.int (3 : Int32)), .val (.int (0 : Int32)), .val (.int (0 : Int32))] [(.int (own_isd (own_slice [y10, y14, y18, y22] 1 4) v3))]))
              refine own_iload X189 hx (hb hby at_194) rfl 196 rfl ?_
              refine own_icmpN X189 hx (hb hby at_196) (teq (by rw [show own_slice [y10, y14, y18, y22] 1 4 = [y14, y18, y22] from rfl]; simp [own_isd, c169, c177, c185, c186])).2 199 rfl ?_
              refine own_iconst X189 hx (hb hby at_199) (1 : Int32) rfl 200 rfl ?_
              refine own_goto X189 hx (hb hby at_200) 204 ⟨by decide, by decide⟩ ?_
              refine own_nreturn X189 hx Bd.notSynchronized hG Bd.returns (by simp) (hb hby at_204) (by decide) (by decide) ?_
              rw [e189]
              exact ⟨rfl, N190⟩
          ·
            refine own_ifN X183 hx (hb hby at_150) ((if0 _ _).trans (feq c185).1) 153 rfl ?_
            refine own_iconst X183 hx (hb hby at_153) (1 : Int32) rfl 154 rfl ?_
            refine own_goto X183 hx (hb hby at_154) 158 ⟨by decide, by decide⟩ ?_
            refine own_istore X183 hx (hb hby at_158) #[.val (.int v0), .val (.int v1), .val (.int v2), .val (.int v3), .val (.ref a7), .val (.int (1 : Int32)), .val (.int (4 : Int32)), .val (.int (3 : Int32)), .val (.int (1 : Int32)), .unset] rfl 160 rfl ?_
            refine own_iload X183 hx (hb hby at_160) rfl 162 rfl ?_
            refine own_iconst X183 hx (hb hby at_162) (1 : Int32) rfl 163 rfl ?_
            refine own_icmpN X183 hx (hb hby at_163) (flt (by decide)).1 166 rfl ?_
            refine own_iload X183 hx (hb hby at_166) rfl 168 rfl ?_
            refine own_iloadN X183 hx (hb hby at_168) rfl 169 rfl ?_
            by_cases c191 : v3 < (3 : Int32)
            ·
              refine own_icmpY X183 hx (hb hby at_169) (tlt c191).2.2.1 181 ⟨by decide, by decide⟩ ?_
              refine own_iconst X183 hx (hb hby at_181) (0 : Int32) rfl 182 rfl ?_
              refine own_istore X183 hx (hb hby at_182) #[.val (.int v0), .val (.int v1), .val (.int v2), .val (.int v3), .val (.ref a7), .val (.int (1 : Int32)), .val (.int (4 : Int32)), .val (.int (3 : Int32)), .val (.int (1 : Int32)), .val (.int (0 : Int32))] rfl 184 rfl ?_
              refine own_aload X183 hx (hb hby at_184) rfl rfl 186 rfl ?_
              refine own_iload X183 hx (hb hby at_186) rfl 188 rfl ?_
              refine own_iload X183 hx (hb hby at_188) rfl 190 rfl ?_
              refine own_iloadN X183 hx (hb hby at_190) rfl 191 rfl ?_
              refine own_callS X183 hx hZ hown (own_w hw 2 rfl) (own_w hw 3 rfl) (own_w hw 4 rfl) (own_w hw 5 rfl) (by decide) e183 (rm2 l Z a0 hw [] a7 1 4 v3 [y10, y14, y18, y22] h23 n0 (by decide) (by simp) V23) (by rw [hml]; rfl) pd_0 (argsL := [(.ref a7), (.int (1 : Int32)), (.int (4 : Int32)), (.int v3)]) rfl (rest := []) rfl (hb hby at_191) 0 (Nat.le_of_eq rfl) (by decide) (by decide) (by decide) (by decide) 194 rfl (fun T192 L192 v192 X192 hQ192 => ?_)
              obtain ⟨rfl, N192, e192⟩ := hQ192
              have N193 := Fr.app N184 N192
              show own_Go p e below G (T192.setTop (mkF m 194 #[.val (.int v0), .val (.int v1), .val (.int v2), .val (.int v3), .val (.ref a7), .val (.int (1 : Int32)), .val (.int (4 : Int32)), .val (.int (3 : Int32)), .val (.int (1 : Int32)), .val (.int (0 : Int32))] [(.int (own_isd (own_slice [y10, y14, y18, y22] 1 4) v3))]))
              refine own_iload X192 hx (hb hby at_194) rfl 196 rfl ?_
              refine own_icmpN X192 hx (hb hby at_196) (teq (by rw [show own_slice [y10, y14, y18, y22] 1 4 = [y14, y18, y22] from rfl]; simp [own_isd, c169, c177, c185, c191])).2 199 rfl ?_
              refine own_iconst X192 hx (hb hby at_199) (1 : Int32) rfl 200 rfl ?_
              refine own_goto X192 hx (hb hby at_200) 204 ⟨by decide, by decide⟩ ?_
              refine own_nreturn X192 hx Bd.notSynchronized hG Bd.returns (by simp) (hb hby at_204) (by decide) (by decide) ?_
              rw [e192]
              exact ⟨rfl, N193⟩
            ·
              refine own_icmpN X183 hx (hb hby at_169) (flt c191).2.2.1 172 rfl ?_
              refine own_iload X183 hx (hb hby at_172) rfl 174 rfl ?_
              refine own_ifN X183 hx (hb hby at_174) ((if0 _ _).trans (feq (by decide)).1) 177 rfl ?_
              refine own_iconst X183 hx (hb hby at_177) (1 : Int32) rfl 178 rfl ?_
              refine own_goto X183 hx (hb hby at_178) 182 ⟨by decide, by decide⟩ ?_
              refine own_istore X183 hx (hb hby at_182) #[.val (.int v0), .val (.int v1), .val (.int v2), .val (.int v3), .val (.ref a7), .val (.int (1 : Int32)), .val (.int (4 : Int32)), .val (.int (3 : Int32)), .val (.int (1 : Int32)), .val (.int (1 : Int32))] rfl 184 rfl ?_
              refine own_aload X183 hx (hb hby at_184) rfl rfl 186 rfl ?_
              refine own_iload X183 hx (hb hby at_186) rfl 188 rfl ?_
              refine own_iload X183 hx (hb hby at_188) rfl 190 rfl ?_
              refine own_iloadN X183 hx (hb hby at_190) rfl 191 rfl ?_
              refine own_callS X183 hx hZ hown (own_w hw 2 rfl) (own_w hw 3 rfl) (own_w hw 4 rfl) (own_w hw 5 rfl) (by decide) e183 (rm2 l Z a0 hw [] a7 1 4 v3 [y10, y14, y18, y22] h23 n0 (by decide) (by simp) V23) (by rw [hml]; rfl) pd_0 (argsL := [(.ref a7), (.int (1 : Int32)), (.int (4 : Int32)), (.int v3)]) rfl (rest := []) rfl (hb hby at_191) 0 (Nat.le_of_eq rfl) (by decide) (by decide) (by decide) (by decide) 194 rfl (fun T194 L194 v194 X194 hQ194 => ?_)
              obtain ⟨rfl, N194, e194⟩ := hQ194
              have N195 := Fr.app N184 N194
              show own_Go p e below G (T194.setTop (mkF m 194 #[.val (.int v0), .val (.int v1), .val (.int v2), .val (.int v3), .val (.ref a7), .val (.int (1 : Int32)), .val (.int (4 : Int32)), .val (.int (3 : Int32)), .val (.int (1 : Int32)), .val (.int (1 : Int32))] [(.int (own_isd (own_slice [y10, y14, y18, y22] 1 4) v3))]))
              refine own_iload X194 hx (hb hby at_194) rfl 196 rfl ?_
              refine own_icmpN X194 hx (hb hby at_196) (teq (by rw [show own_slice [y10, y14, y18, y22] 1 4 = [y14, y18, y22] from rfl]; simp [own_isd, c169, c177, c185, c191])).2 199 rfl ?_
              refine own_iconst X194 hx (hb hby at_199) (1 : Int32) rfl 200 rfl ?_
              refine own_goto X194 hx (hb hby at_200) 204 ⟨by decide, by decide⟩ ?_
              refine own_nreturn X194 hx Bd.notSynchronized hG Bd.returns (by simp) (hb hby at_204) (by decide) (by decide) ?_
              rw [e194]
              exact ⟨rfl, N195⟩
  ·
    refine own_iload X23 hx (hb hby at_46) rfl 48 rfl ?_
    refine own_iloadN X23 hx (hb hby at_48) rfl 49 rfl ?_
    refine own_ldcInt X23 hx hown (mvT hZ (own_w hw 1 rfl)) (hb hby at_49) 51 rfl ?_
    refine own_iand X23 hx (hb hby at_51) 52 rfl ?_
    refine own_iconst X23 hx (hb hby at_52) (5 : Int32) rfl 53 rfl ?_
    refine own_iload X23 hx (hb hby at_53) rfl 55 rfl ?_
    refine own_isub X23 hx (hb hby at_55) 56 rfl ?_
    show own_Go p e below G (T23.setTop (mkF m 56 #[.val (.int v0), .val (.int v1), .val (.int v2), .val (.int v3), .val (.ref a7), .val (.int (2 : Int32)), .unset, .unset, .unset, .unset] [(.int (3 : Int32)), (.int (v2 &&& (2147483647 : Int32))), (.int (2 : Int32))]))
    refine own_irem X23 hx (hb hby at_56) (by decide) 57 rfl ?_
    generalize hy196 : ((v2 &&& (2147483647 : Int32)) % (3 : Int32)) = y196
    have hm : y196 = 0 ∨ y196 = 1 ∨ y196 = 2 := by
      obtain ⟨i, hi, he⟩ := own_mod v2 3 3 rfl (by decide)
      rw [← hy196, he]
      have q : i = 0 ∨ i = 1 ∨ i = 2 := by omega
      rcases q with rfl | rfl | rfl <;> decide
    rcases hm with rfl | rfl | rfl
    ·
      refine own_iadd X23 hx (hb hby at_57) 58 rfl ?_
      show own_Go p e below G (T23.setTop (mkF m 58 #[.val (.int v0), .val (.int v1), .val (.int v2), .val (.int v3), .val (.ref a7), .val (.int (2 : Int32)), .unset, .unset, .unset, .unset] [(.int (2 : Int32))]))
      refine own_istore X23 hx (hb hby at_58) #[.val (.int v0), .val (.int v1), .val (.int v2), .val (.int v3), .val (.ref a7), .val (.int (2 : Int32)), .val (.int (2 : Int32)), .unset, .unset, .unset] rfl 60 rfl ?_
      refine own_iload X23 hx (hb hby at_60) rfl 62 rfl ?_
      refine own_iload X23 hx (hb hby at_62) rfl 64 rfl ?_
      refine own_isub X23 hx (hb hby at_64) 65 rfl ?_
      show own_Go p e below G (T23.setTop (mkF m 65 #[.val (.int v0), .val (.int v1), .val (.int v2), .val (.int v3), .val (.ref a7), .val (.int (2 : Int32)), .val (.int (2 : Int32)), .unset, .unset, .unset] [(.int (0 : Int32))]))
      refine own_istore X23 hx (hb hby at_65) #[.val (.int v0), .val (.int v1), .val (.int v2), .val (.int v3), .val (.ref a7), .val (.int (2 : Int32)), .val (.int (2 : Int32)), .val (.int (0 : Int32)), .unset, .unset] rfl 67 rfl ?_
      refine own_iload X23 hx (hb hby at_67) rfl 69 rfl ?_
      refine own_ifY X23 hx (hb hby at_69) ((if0 _ _).trans (tlt (by decide)).2.2.1) 87 ⟨by decide, by decide⟩ ?_
      refine own_iload X23 hx (hb hby at_87) rfl 89 rfl ?_
      refine own_iconst X23 hx (hb hby at_89) (1 : Int32) rfl 90 rfl ?_
      refine own_icmpY X23 hx (hb hby at_90) (tlt (by decide)).2.2.1 109 ⟨by decide, by decide⟩ ?_
      refine own_iload X23 hx (hb hby at_109) rfl 111 rfl ?_
      refine own_iconst X23 hx (hb hby at_111) (2 : Int32) rfl 112 rfl ?_
      refine own_icmpN X23 hx (hb hby at_112) (flt (by decide)).2.2.1 115 rfl ?_
      refine own_iload X23 hx (hb hby at_115) rfl 117 rfl ?_
      refine own_iconst X23 hx (hb hby at_117) (2 : Int32) rfl 118 rfl ?_
      refine own_icmpY X23 hx (hb hby at_118) (flt (by decide)).2.2.2 131 ⟨by decide, by decide⟩ ?_
      refine own_iload X23 hx (hb hby at_131) rfl 133 rfl ?_
      refine own_iconst X23 hx (hb hby at_133) (3 : Int32) rfl 134 rfl ?_
      refine own_icmpN X23 hx (hb hby at_134) (flt (by decide)).2.2.1 137 rfl ?_
      refine own_iload X23 hx (hb hby at_137) rfl 139 rfl ?_
      refine own_iconst X23 hx (hb hby at_139) (3 : Int32) rfl 140 rfl ?_
      refine own_icmpY X23 hx (hb hby at_140) (flt (by decide)).2.2.2 153 ⟨by decide, by decide⟩ ?_
      refine own_iconst X23 hx (hb hby at_153) (1 : Int32) rfl 154 rfl ?_
      refine own_goto X23 hx (hb hby at_154) 158 ⟨by decide, by decide⟩ ?_
      refine own_istore X23 hx (hb hby at_158) #[.val (.int v0), .val (.int v1), .val (.int v2), .val (.int v3), .val (.ref a7), .val (.int (2 : Int32)), .val (.int (2 : Int32)), .val (.int (0 : Int32)), .val (.int (1 : Int32)), .unset] rfl 160 rfl ?_
      refine own_iload X23 hx (hb hby at_160) rfl 162 rfl ?_
      refine own_iconst X23 hx (hb hby at_162) (1 : Int32) rfl 163 rfl ?_
      refine own_icmpY X23 hx (hb hby at_163) (tlt (by decide)).1 181 ⟨by decide, by decide⟩ ?_
      refine own_iconst X23 hx (hb hby at_181) (0 : Int32) rfl 182 rfl ?_
      refine own_istore X23 hx (hb hby at_182) #[.val (.int v0), .val (.int v1), .val (.int v2), .val (.int v3), .val (.ref a7), .val (.int (2 : Int32)), .val (.int (2 : Int32)), .val (.int (0 : Int32)), .val (.int (1 : Int32)), .val (.int (0 : Int32))] rfl 184 rfl ?_
      refine own_aload X23 hx (hb hby at_184) rfl rfl 186 rfl ?_
      refine own_iload X23 hx (hb hby at_186) rfl 188 rfl ?_
      refine own_iload X23 hx (hb hby at_188) rfl 190 rfl ?_
      refine own_iloadN X23 hx (hb hby at_190) rfl 191 rfl ?_
      refine own_callS X23 hx hZ hown (own_w hw 2 rfl) (own_w hw 3 rfl) (own_w hw 4 rfl) (own_w hw 5 rfl) (by decide) e23 (rm2 l Z a0 hw [] a7 2 2 v3 [y10, y14, y18, y22] h23 n0 (by decide) (by simp) V23) (by rw [hml]; rfl) pd_0 (argsL := [(.ref a7), (.int (2 : Int32)), (.int (2 : Int32)), (.int v3)]) rfl (rest := []) rfl (hb hby at_191) 0 (Nat.le_of_eq rfl) (by decide) (by decide) (by decide) (by decide) 194 rfl (fun T197 L197 v197 X197 hQ197 => ?_)
      obtain ⟨rfl, N197, e197⟩ := hQ197
      have N198 := Fr.app N24 N197
      show own_Go p e below G (T197.setTop (mkF m 194 #[.val (.int v0), .val (.int v1), .val (.int v2), .val (.int v3), .val (.ref a7), .val (.int (2 : Int32)), .val (.int (2 : Int32)), .val (.int (0 : Int32)), .val (.int (1 : Int32)), .val (.int (0 : Int32))] [(.int (own_isd (own_slice [y10, y14, y18, y22] 2 2) v3))]))
      refine own_iload X197 hx (hb hby at_194) rfl 196 rfl ?_
      refine own_icmpN X197 hx (hb hby at_196) (teq (by rw [show own_slice [y10, y14, y18, y22] 2 2 = ([] : List Int32) from rfl]; simp [own_isd])).2 199 rfl ?_
      refine own_iconst X197 hx (hb hby at_199) (1 : Int32) rfl 200 rfl ?_
      refine own_goto X197 hx (hb hby at_200) 204 ⟨by decide, by decide⟩ ?_
      refine own_nreturn X197 hx Bd.notSynchronized hG Bd.returns (by simp) (hb hby at_204) (by decide) (by decide) ?_
      rw [e197]
      exact ⟨rfl, N198⟩
    ·
      refine own_iadd X23 hx (hb hby at_57) 58 rfl ?_
      show own_Go p e below G (T23.setTop (mkF m 58 #[.val (.int v0), .val (.int v1), .val (.int v2), .val (.int v3), .val (.ref a7), .val (.int (2 : Int32)), .unset, .unset, .unset, .unset] [(.int (3 : Int32))]))
      refine own_istore X23 hx (hb hby at_58) #[.val (.int v0), .val (.int v1), .val (.int v2), .val (.int v3), .val (.ref a7), .val (.int (2 : Int32)), .val (.int (3 : Int32)), .unset, .unset, .unset] rfl 60 rfl ?_
      refine own_iload X23 hx (hb hby at_60) rfl 62 rfl ?_
      refine own_iload X23 hx (hb hby at_62) rfl 64 rfl ?_
      refine own_isub X23 hx (hb hby at_64) 65 rfl ?_
      show own_Go p e below G (T23.setTop (mkF m 65 #[.val (.int v0), .val (.int v1), .val (.int v2), .val (.int v3), .val (.ref a7), .val (.int (2 : Int32)), .val (.int (3 : Int32)), .unset, .unset, .unset] [(.int (1 : Int32))]))
      refine own_istore X23 hx (hb hby at_65) #[.val (.int v0), .val (.int v1), .val (.int v2), .val (.int v3), .val (.ref a7), .val (.int (2 : Int32)), .val (.int (3 : Int32)), .val (.int (1 : Int32)), .unset, .unset] rfl 67 rfl ?_
      refine own_iload X23 hx (hb hby at_67) rfl 69 rfl ?_
      refine own_ifY X23 hx (hb hby at_69) ((if0 _ _).trans (tlt (by decide)).2.2.1) 87 ⟨by decide, by decide⟩ ?_
      refine own_iload X23 hx (hb hby at_87) rfl 89 rfl ?_
      refine own_iconst X23 hx (hb hby at_89) (1 : Int32) rfl 90 rfl ?_
      refine own_icmpY X23 hx (hb hby at_90) (tlt (by decide)).2.2.1 109 ⟨by decide, by decide⟩ ?_
      refine own_iload X23 hx (hb hby at_109) rfl 111 rfl ?_
      refine own_iconst X23 hx (hb hby at_111) (2 : Int32) rfl 112 rfl ?_
      refine own_icmpN X23 hx (hb hby at_112) (flt (by decide)).2.2.1 115 rfl ?_
      refine own_iload X23 hx (hb hby at_115) rfl 117 rfl ?_
      refine own_iconst X23 hx (hb hby at_117) (2 : Int32) rfl 118 rfl ?_
      refine own_icmpN X23 hx (hb hby at_118) (tlt (by decide)).2.2.2 121 rfl ?_
      refine own_aload X23 hx (hb hby at_121) rfl rfl 123 rfl ?_
      refine own_iconst X23 hx (hb hby at_123) (2 : Int32) rfl 124 rfl ?_
      refine own_baload X23 hx hZ e23 V23 2 rfl y18 rfl (hb hby at_124) 125 rfl ?_
      refine own_callS X23 hx hZ hown (own_w hw 6 rfl) (own_w hw 7 rfl) (own_w hw 8 rfl) (own_w hw 9 rfl) (by decide) e23 (rm1 l Z a0 hw [] y18 h23 n0) (by rw [hml]; rfl) pd_1 (argsL := [(.int y18)]) rfl (rest := []) rfl (hb hby at_125) 0 (Nat.le_of_eq rfl) (by decide) (by decide) (by decide) (by decide) 128 rfl (fun T199 L199 v199 X199 hQ199 => ?_)
      obtain ⟨rfl, N199, e199⟩ := hQ199
      have N200 := Fr.app N24 N199
      show own_Go p e below G (T199.setTop (mkF m 128 #[.val (.int v0), .val (.int v1), .val (.int v2), .val (.int v3), .val (.ref a7), .val (.int (2 : Int32)), .val (.int (3 : Int32)), .val (.int (1 : Int32)), .unset, .unset] [(.int (own_dig y18))]))
      by_cases c201 : (own_dig y18) = (0 : Int32)
      ·
        refine own_ifY X199 hx (hb hby at_128) ((if0 _ _).trans (teq c201).1) 157 ⟨by decide, by decide⟩ ?_
        refine own_iconst X199 hx (hb hby at_157) (0 : Int32) rfl 158 rfl ?_
        refine own_istore X199 hx (hb hby at_158) #[.val (.int v0), .val (.int v1), .val (.int v2), .val (.int v3), .val (.ref a7), .val (.int (2 : Int32)), .val (.int (3 : Int32)), .val (.int (1 : Int32)), .val (.int (0 : Int32)), .unset] rfl 160 rfl ?_
        refine own_iload X199 hx (hb hby at_160) rfl 162 rfl ?_
        refine own_iconst X199 hx (hb hby at_162) (1 : Int32) rfl 163 rfl ?_
        refine own_icmpN X199 hx (hb hby at_163) (flt (by decide)).1 166 rfl ?_
        refine own_iload X199 hx (hb hby at_166) rfl 168 rfl ?_
        refine own_iloadN X199 hx (hb hby at_168) rfl 169 rfl ?_
        by_cases c202 : v3 < (1 : Int32)
        ·
          refine own_icmpY X199 hx (hb hby at_169) (tlt c202).2.2.1 181 ⟨by decide, by decide⟩ ?_
          refine own_iconst X199 hx (hb hby at_181) (0 : Int32) rfl 182 rfl ?_
          refine own_istore X199 hx (hb hby at_182) #[.val (.int v0), .val (.int v1), .val (.int v2), .val (.int v3), .val (.ref a7), .val (.int (2 : Int32)), .val (.int (3 : Int32)), .val (.int (1 : Int32)), .val (.int (0 : Int32)), .val (.int (0 : Int32))] rfl 184 rfl ?_
          refine own_aload X199 hx (hb hby at_184) rfl rfl 186 rfl ?_
          refine own_iload X199 hx (hb hby at_186) rfl 188 rfl ?_
          refine own_iload X199 hx (hb hby at_188) rfl 190 rfl ?_
          refine own_iloadN X199 hx (hb hby at_190) rfl 191 rfl ?_
          refine own_callS X199 hx hZ hown (own_w hw 2 rfl) (own_w hw 3 rfl) (own_w hw 4 rfl) (own_w hw 5 rfl) (by decide) e199 (rm2 l Z a0 hw [] a7 2 3 v3 [y10, y14, y18, y22] h23 n0 (by decide) (by simp) V23) (by rw [hml]; rfl) pd_0 (argsL := [(.ref a7), (.int (2 : Int32)), (.int (3 : Int32)), (.int v3)]) rfl (rest := []) rfl (hb hby at_191) 0 (Nat.le_of_eq rfl) (by decide) (by decide) (by decide) (by decide) 194 rfl (fun T203 L203 v203 X203 hQ203 => ?_)
          obtain ⟨rfl, N203, e203⟩ := hQ203
          have N204 := Fr.app N200 N203
          show own_Go p e below G (T203.setTop (mkF m 194 #[.val (.int v0), .val (.int v1), .val (.int v2), .val (.int v3), .val (.ref a7), .val (.int (2 : Int32)), .val (.int (3 : Int32)), .val (.int (1 : Int32)), .val (.int (0 : Int32)), .val (.int (0 : Int32))] [(.int (own_isd (own_slice [y10, y14, y18, y22] 2 3) v3))]))
          refine own_iload X203 hx (hb hby at_194) rfl 196 rfl ?_
          refine own_icmpN X203 hx (hb hby at_196) (teq (by rw [show own_slice [y10, y14, y18, y22] 2 3 = [y18] from rfl]; simp [own_isd, c201, c202])).2 199 rfl ?_
          refine own_iconst X203 hx (hb hby at_199) (1 : Int32) rfl 200 rfl ?_
          refine own_goto X203 hx (hb hby at_200) 204 ⟨by decide, by decide⟩ ?_
          refine own_nreturn X203 hx Bd.notSynchronized hG Bd.returns (by simp) (hb hby at_204) (by decide) (by decide) ?_
          rw [e203]
          exact ⟨rfl, N204⟩
        ·
          refine own_icmpN X199 hx (hb hby at_169) (flt c202).2.2.1 172 rfl ?_
          refine own_iload X199 hx (hb hby at_172) rfl 174 rfl ?_
          refine own_ifY X199 hx (hb hby at_174) ((if0 _ _).trans (teq (by decide)).1) 181 ⟨by decide, by decide⟩ ?_
          refine own_iconst X199 hx (hb hby at_181) (0 : Int32) rfl 182 rfl ?_
          refine own_istore X199 hx (hb hby at_182) #[.val (.int v0), .val (.int v1), .val (.int v2), .val (.int v3), .val (.ref a7), .val (.int (2 : Int32)), .val (.int (3 : Int32)), .val (.int (1 : Int32)), .val (.int (0 : Int32)), .val (.int (0 : Int32))] rfl 184 rfl ?_
          refine own_aload X199 hx (hb hby at_184) rfl rfl 186 rfl ?_
          refine own_iload X199 hx (hb hby at_186) rfl 188 rfl ?_
          refine own_iload X199 hx (hb hby at_188) rfl 190 rfl ?_
          refine own_iloadN X199 hx (hb hby at_190) rfl 191 rfl ?_
          refine own_callS X199 hx hZ hown (own_w hw 2 rfl) (own_w hw 3 rfl) (own_w hw 4 rfl) (own_w hw 5 rfl) (by decide) e199 (rm2 l Z a0 hw [] a7 2 3 v3 [y10, y14, y18, y22] h23 n0 (by decide) (by simp) V23) (by rw [hml]; rfl) pd_0 (argsL := [(.ref a7), (.int (2 : Int32)), (.int (3 : Int32)), (.int v3)]) rfl (rest := []) rfl (hb hby at_191) 0 (Nat.le_of_eq rfl) (by decide) (by decide) (by decide) (by decide) 194 rfl (fun T205 L205 v205 X205 hQ205 => ?_)
          obtain ⟨rfl, N205, e205⟩ := hQ205
          have N206 := Fr.app N200 N205
          show own_Go p e below G (T205.setTop (mkF m 194 #[.val (.int v0), .val (.int v1), .val (.int v2), .val (.int v3), .val (.ref a7), .val (.int (2 : Int32)), .val (.int (3 : Int32)), .val (.int (1 : Int32)), .val (.int (0 : Int32)), .val (.int (0 : Int32))] [(.int (own_isd (own_slice [y10, y14, y18, y22] 2 3) v3))]))
          refine own_iload X205 hx (hb hby at_194) rfl 196 rfl ?_
          refine own_icmpN X205 hx (hb hby at_196) (teq (by rw [show own_slice [y10, y14, y18, y22] 2 3 = [y18] from rfl]; simp [own_isd, c201, c202])).2 199 rfl ?_
          refine own_iconst X205 hx (hb hby at_199) (1 : Int32) rfl 200 rfl ?_
          refine own_goto X205 hx (hb hby at_200) 204 ⟨by decide, by decide⟩ ?_
          refine own_nreturn X205 hx Bd.notSynchronized hG Bd.returns (by simp) (hb hby at_204) (by decide) (by decide) ?_
          rw [e205]
          exact ⟨rfl, N206⟩
      ·
        refine own_ifN X199 hx (hb hby at_128) ((if0 _ _).trans (feq c201).1) 131 rfl ?_
        refine own_iload X199 hx (hb hby at_131) rfl 133 rfl ?_
        refine own_iconst X199 hx (hb hby at_133) (3 : Int32) rfl 134 rfl ?_
        refine own_icmpN X199 hx (hb hby at_134) (flt (by decide)).2.2.1 137 rfl ?_
        refine own_iload X199 hx (hb hby at_137) rfl 139 rfl ?_
        refine own_iconst X199 hx (hb hby at_139) (3 : Int32) rfl 140 rfl ?_
        refine own_icmpY X199 hx (hb hby at_140) (flt (by decide)).2.2.2 153 ⟨by decide, by decide⟩ ?_
        refine own_iconst X199 hx (hb hby at_153) (1 : Int32) rfl 154 rfl ?_
        refine own_goto X199 hx (hb hby at_154) 158 ⟨by decide, by decide⟩ ?_
        refine own_istore X199 hx (hb hby at_158) #[.val (.int v0), .val (.int v1), .val (.int v2), .val (.int v3), .val (.ref a7), .val (.int (2 : Int32)), .val (.int (3 : Int32)), .val (.int (1 : Int32)), .val (.int (1 : Int32)), .unset] rfl 160 rfl ?_
        refine own_iload X199 hx (hb hby at_160) rfl 162 rfl ?_
        refine own_iconst X199 hx (hb hby at_162) (1 : Int32) rfl 163 rfl ?_
        refine own_icmpN X199 hx (hb hby at_163) (flt (by decide)).1 166 rfl ?_
        refine own_iload X199 hx (hb hby at_166) rfl 168 rfl ?_
        refine own_iloadN X199 hx (hb hby at_168) rfl 169 rfl ?_
        by_cases c207 : v3 < (1 : Int32)
        ·
          refine own_icmpY X199 hx (hb hby at_169) (tlt c207).2.2.1 181 ⟨by decide, by decide⟩ ?_
          refine own_iconst X199 hx (hb hby at_181) (0 : Int32) rfl 182 rfl ?_
          refine own_istore X199 hx (hb hby at_182) #[.val (.int v0), .val (.int v1), .val (.int v2), .val (.int v3), .val (.ref a7), .val (.int (2 : Int32)), .val (.int (3 : Int32)), .val (.int (1 : Int32)), .val (.int (1 : Int32)), .val (.int (0 : Int32))] rfl 184 rfl ?_
          refine own_aload X199 hx (hb hby at_184) rfl rfl 186 rfl ?_
          refine own_iload X199 hx (hb hby at_186) rfl 188 rfl ?_
          refine own_iload X199 hx (hb hby at_188) rfl 190 rfl ?_
          refine own_iloadN X199 hx (hb hby at_190) rfl 191 rfl ?_
          refine own_callS X199 hx hZ hown (own_w hw 2 rfl) (own_w hw 3 rfl) (own_w hw 4 rfl) (own_w hw 5 rfl) (by decide) e199 (rm2 l Z a0 hw [] a7 2 3 v3 [y10, y14, y18, y22] h23 n0 (by decide) (by simp) V23) (by rw [hml]; rfl) pd_0 (argsL := [(.ref a7), (.int (2 : Int32)), (.int (3 : Int32)), (.int v3)]) rfl (rest := []) rfl (hb hby at_191) 0 (Nat.le_of_eq rfl) (by decide) (by decide) (by decide) (by decide) 194 rfl (fun T208 L208 v208 X208 hQ208 => ?_)
          obtain ⟨rfl, N208, e208⟩ := hQ208
          have N209 := Fr.app N200 N208
          show own_Go p e below G (T208.setTop (mkF m 194 #[.val (.int v0), .val (.int v1), .val (.int v2), .val (.int v3), .val (.ref a7), .val (.int (2 : Int32)), .val (.int (3 : Int32)), .val (.int (1 : Int32)), .val (.int (1 : Int32)), .val (.int (0 : Int32))] [(.int (own_isd (own_slice [y10, y14, y18, y22] 2 3) v3))]))
          refine own_iload X208 hx (hb hby at_194) rfl 196 rfl ?_
          refine own_icmpN X208 hx (hb hby at_196) (teq (by rw [show own_slice [y10, y14, y18, y22] 2 3 = [y18] from rfl]; simp [own_isd, c201, c207])).2 199 rfl ?_
          refine own_iconst X208 hx (hb hby at_199) (1 : Int32) rfl 200 rfl ?_
          refine own_goto X208 hx (hb hby at_200) 204 ⟨by decide, by decide⟩ ?_
          refine own_nreturn X208 hx Bd.notSynchronized hG Bd.returns (by simp) (hb hby at_204) (by decide) (by decide) ?_
          rw [e208]
          exact ⟨rfl, N209⟩
        ·
          refine own_icmpN X199 hx (hb hby at_169) (flt c207).2.2.1 172 rfl ?_
          refine own_iload X199 hx (hb hby at_172) rfl 174 rfl ?_
          refine own_ifN X199 hx (hb hby at_174) ((if0 _ _).trans (feq (by decide)).1) 177 rfl ?_
          refine own_iconst X199 hx (hb hby at_177) (1 : Int32) rfl 178 rfl ?_
          refine own_goto X199 hx (hb hby at_178) 182 ⟨by decide, by decide⟩ ?_
          refine own_istore X199 hx (hb hby at_182) #[.val (.int v0), .val (.int v1), .val (.int v2), .val (.int v3), .val (.ref a7), .val (.int (2 : Int32)), .val (.int (3 : Int32)), .val (.int (1 : Int32)), .val (.int (1 : Int32)), .val (.int (1 : Int32))] rfl 184 rfl ?_
          refine own_aload X199 hx (hb hby at_184) rfl rfl 186 rfl ?_
          refine own_iload X199 hx (hb hby at_186) rfl 188 rfl ?_
          refine own_iload X199 hx (hb hby at_188) rfl 190 rfl ?_
          refine own_iloadN X199 hx (hb hby at_190) rfl 191 rfl ?_
          refine own_callS X199 hx hZ hown (own_w hw 2 rfl) (own_w hw 3 rfl) (own_w hw 4 rfl) (own_w hw 5 rfl) (by decide) e199 (rm2 l Z a0 hw [] a7 2 3 v3 [y10, y14, y18, y22] h23 n0 (by decide) (by simp) V23) (by rw [hml]; rfl) pd_0 (argsL := [(.ref a7), (.int (2 : Int32)), (.int (3 : Int32)), (.int v3)]) rfl (rest := []) rfl (hb hby at_191) 0 (Nat.le_of_eq rfl) (by decide) (by decide) (by decide) (by decide) 194 rfl (fun T210 L210 v210 X210 hQ210 => ?_)
          obtain ⟨rfl, N210, e210⟩ := hQ210
          have N211 := Fr.app N200 N210
          show own_Go p e below G (T210.setTop (mkF m 194 #[.val (.int v0), .val (.int v1), .val (.int v2), .val (.int v3), .val (.ref a7), .val (.int (2 : Int32)), .val (.int (3 : Int32)), .val (.int (1 : Int32)), .val (.int (1 : Int32)), .val (.int (1 : Int32))] [(.int (own_isd (own_slice [y10, y14, y18, y22] 2 3) v3))]))
          refine own_iload X210 hx (hb hby at_194) rfl 196 rfl ?_
          refine own_icmpN X210 hx (hb hby at_196) (teq (by rw [show own_slice [y10, y14, y18, y22] 2 3 = [y18] from rfl]; simp [own_isd, c201, c207])).2 199 rfl ?_
          refine own_iconst X210 hx (hb hby at_199) (1 : Int32) rfl 200 rfl ?_
          refine own_goto X210 hx (hb hby at_200) 204 ⟨by decide, by decide⟩ ?_
          refine own_nreturn X210 hx Bd.notSynchronized hG Bd.returns (by simp) (hb hby at_204) (by decide) (by decide) ?_
          rw [e210]
          exact ⟨rfl, N211⟩
    ·
      refine own_iadd X23 hx (hb hby at_57) 58 rfl ?_
      show own_Go p e below G (T23.setTop (mkF m 58 #[.val (.int v0), .val (.int v1), .val (.int v2), .val (.int v3), .val (.ref a7), .val (.int (2 : Int32)), .unset, .unset, .unset, .unset] [(.int (4 : Int32))]))
      refine own_istore X23 hx (hb hby at_58) #[.val (.int v0), .val (.int v1), .val (.int v2), .val (.int v3), .val (.ref a7), .val (.int (2 : Int32)), .val (.int (4 : Int32)), .unset, .unset, .unset] rfl 60 rfl ?_
      refine own_iload X23 hx (hb hby at_60) rfl 62 rfl ?_
      refine own_iload X23 hx (hb hby at_62) rfl 64 rfl ?_
      refine own_isub X23 hx (hb hby at_64) 65 rfl ?_
      show own_Go p e below G (T23.setTop (mkF m 65 #[.val (.int v0), .val (.int v1), .val (.int v2), .val (.int v3), .val (.ref a7), .val (.int (2 : Int32)), .val (.int (4 : Int32)), .unset, .unset, .unset] [(.int (2 : Int32))]))
      refine own_istore X23 hx (hb hby at_65) #[.val (.int v0), .val (.int v1), .val (.int v2), .val (.int v3), .val (.ref a7), .val (.int (2 : Int32)), .val (.int (4 : Int32)), .val (.int (2 : Int32)), .unset, .unset] rfl 67 rfl ?_
      refine own_iload X23 hx (hb hby at_67) rfl 69 rfl ?_
      refine own_ifY X23 hx (hb hby at_69) ((if0 _ _).trans (tlt (by decide)).2.2.1) 87 ⟨by decide, by decide⟩ ?_
      refine own_iload X23 hx (hb hby at_87) rfl 89 rfl ?_
      refine own_iconst X23 hx (hb hby at_89) (1 : Int32) rfl 90 rfl ?_
      refine own_icmpY X23 hx (hb hby at_90) (tlt (by decide)).2.2.1 109 ⟨by decide, by decide⟩ ?_
      refine own_iload X23 hx (hb hby at_109) rfl 111 rfl ?_
      refine own_iconst X23 hx (hb hby at_111) (2 : Int32) rfl 112 rfl ?_
      refine own_icmpN X23 hx (hb hby at_112) (flt (by decide)).2.2.1 115 rfl ?_
      refine own_iload X23 hx (hb hby at_115) rfl 117 rfl ?_
      refine own_iconst X23 hx (hb hby at_117) (2 : Int32) rfl 118 rfl ?_
      refine own_icmpN X23 hx (hb hby at_118) (tlt (by decide)).2.2.2 121 rfl ?_
      refine own_aload X23 hx (hb hby at_121) rfl rfl 123 rfl ?_
      refine own_iconst X23 hx (hb hby at_123) (2 : Int32) rfl 124 rfl ?_
      refine own_baload X23 hx hZ e23 V23 2 rfl y18 rfl (hb hby at_124) 125 rfl ?_
      refine own_callS X23 hx hZ hown (own_w hw 6 rfl) (own_w hw 7 rfl) (own_w hw 8 rfl) (own_w hw 9 rfl) (by decide) e23 (rm1 l Z a0 hw [] y18 h23 n0) (by rw [hml]; rfl) pd_1 (argsL := [(.int y18)]) rfl (rest := []) rfl (hb hby at_125) 0 (Nat.le_of_eq rfl) (by decide) (by decide) (by decide) (by decide) 128 rfl (fun T212 L212 v212 X212 hQ212 => ?_)
      obtain ⟨rfl, N212, e212⟩ := hQ212
      have N213 := Fr.app N24 N212
      show own_Go p e below G (T212.setTop (mkF m 128 #[.val (.int v0), .val (.int v1), .val (.int v2), .val (.int v3), .val (.ref a7), .val (.int (2 : Int32)), .val (.int (4 : Int32)), .val (.int (2 : Int32)), .unset, .unset] [(.int (own_dig y18))]))
      by_cases c214 : (own_dig y18) = (0 : Int32)
      ·
        refine own_ifY X212 hx (hb hby at_128) ((if0 _ _).trans (teq c214).1) 157 ⟨by decide, by decide⟩ ?_
        refine own_iconst X212 hx (hb hby at_157) (0 : Int32) rfl 158 rfl ?_
        refine own_istore X212 hx (hb hby at_158) #[.val (.int v0), .val (.int v1), .val (.int v2), .val (.int v3), .val (.ref a7), .val (.int (2 : Int32)), .val (.int (4 : Int32)), .val (.int (2 : Int32)), .val (.int (0 : Int32)), .unset] rfl 160 rfl ?_
        refine own_iload X212 hx (hb hby at_160) rfl 162 rfl ?_
        refine own_iconst X212 hx (hb hby at_162) (1 : Int32) rfl 163 rfl ?_
        refine own_icmpN X212 hx (hb hby at_163) (flt (by decide)).1 166 rfl ?_
        refine own_iload X212 hx (hb hby at_166) rfl 168 rfl ?_
        refine own_iloadN X212 hx (hb hby at_168) rfl 169 rfl ?_
        by_cases c215 : v3 < (2 : Int32)
        ·
          refine own_icmpY X212 hx (hb hby at_169) (tlt c215).2.2.1 181 ⟨by decide, by decide⟩ ?_
          refine own_iconst X212 hx (hb hby at_181) (0 : Int32) rfl 182 rfl ?_
          refine own_istore X212 hx (hb hby at_182) #[.val (.int v0), .val (.int v1), .val (.int v2), .val (.int v3), .val (.ref a7), .val (.int (2 : Int32)), .val (.int (4 : Int32)), .val (.int (2 : Int32)), .val (.int (0 : Int32)), .val (.int (0 : Int32))] rfl 184 rfl ?_
          refine own_aload X212 hx (hb hby at_184) rfl rfl 186 rfl ?_
          refine own_iload X212 hx (hb hby at_186) rfl 188 rfl ?_
          refine own_iload X212 hx (hb hby at_188) rfl 190 rfl ?_
          refine own_iloadN X212 hx (hb hby at_190) rfl 191 rfl ?_
          refine own_callS X212 hx hZ hown (own_w hw 2 rfl) (own_w hw 3 rfl) (own_w hw 4 rfl) (own_w hw 5 rfl) (by decide) e212 (rm2 l Z a0 hw [] a7 2 4 v3 [y10, y14, y18, y22] h23 n0 (by decide) (by simp) V23) (by rw [hml]; rfl) pd_0 (argsL := [(.ref a7), (.int (2 : Int32)), (.int (4 : Int32)), (.int v3)]) rfl (rest := []) rfl (hb hby at_191) 0 (Nat.le_of_eq rfl) (by decide) (by decide) (by decide) (by decide) 194 rfl (fun T216 L216 v216 X216 hQ216 => ?_)
          obtain ⟨rfl, N216, e216⟩ := hQ216
          have N217 := Fr.app N213 N216
          show own_Go p e below G (T216.setTop (mkF m 194 #[.val (.int v0), .val (.int v1), .val (.int v2), .val (.int v3), .val (.ref a7), .val (.int (2 : Int32)), .val (.int (4 : Int32)), .val (.int (2 : Int32)), .val (.int (0 : Int32)), .val (.int (0 : Int32))] [(.int (own_isd (own_slice [y10, y14, y18, y22] 2 4) v3))]))
          refine own_iload X216 hx (hb hby at_194) rfl 196 rfl ?_
          refine own_icmpN X216 hx (hb hby at_196) (teq (by rw [show own_slice [y10, y14, y18, y22] 2 4 = [y18, y22] from rfl]; simp [own_isd, c214, c215])).2 199 rfl ?_
          refine own_iconst X216 hx (hb hby at_199) (1 : Int32) rfl 200 rfl ?_
          refine own_goto X216 hx (hb hby at_200) 204 ⟨by decide, by decide⟩ ?_
          refine own_nreturn X216 hx Bd.notSynchronized hG Bd.returns (by simp) (hb hby at_204) (by decide) (by decide) ?_
          rw [e216]
          exact ⟨rfl, N217⟩
        ·
          refine own_icmpN X212 hx (hb hby at_169) (flt c215).2.2.1 172 rfl ?_
          refine own_iload X212 hx (hb hby at_172) rfl 174 rfl ?_
          refine own_ifY X212 hx (hb hby at_174) ((if0 _ _).trans (teq (by decide)).1) 181 ⟨by decide, by decide⟩ ?_
          refine own_iconst X212 hx (hb hby at_181) (0 : Int32) rfl 182 rfl ?_
          refine own_istore X212 hx (hb hby at_182) #[.val (.int v0), .val (.int v1), .val (.int v2), .val (.int v3), .val (.ref a7), .val (.int (2 : Int32)), .val (.int (4 : Int32)), .val (.int (2 : Int32)), .val (.int (0 : Int32)), .val (.int (0 : Int32))] rfl 184 rfl ?_
          refine own_aload X212 hx (hb hby at_184) rfl rfl 186 rfl ?_
          refine own_iload X212 hx (hb hby at_186) rfl 188 rfl ?_
          refine own_iload X212 hx (hb hby at_188) rfl 190 rfl ?_
          refine own_iloadN X212 hx (hb hby at_190) rfl 191 rfl ?_
          refine own_callS X212 hx hZ hown (own_w hw 2 rfl) (own_w hw 3 rfl) (own_w hw 4 rfl) (own_w hw 5 rfl) (by decide) e212 (rm2 l Z a0 hw [] a7 2 4 v3 [y10, y14, y18, y22] h23 n0 (by decide) (by simp) V23) (by rw [hml]; rfl) pd_0 (argsL := [(.ref a7), (.int (2 : Int32)), (.int (4 : Int32)), (.int v3)]) rfl (rest := []) rfl (hb hby at_191) 0 (Nat.le_of_eq rfl) (by decide) (by decide) (by decide) (by decide) 194 rfl (fun T218 L218 v218 X218 hQ218 => ?_)
          obtain ⟨rfl, N218, e218⟩ := hQ218
          have N219 := Fr.app N213 N218
          show own_Go p e below G (T218.setTop (mkF m 194 #[.val (.int v0), .val (.int v1), .val (.int v2), .val (.int v3), .val (.ref a7), .val (.int (2 : Int32)), .val (.int (4 : Int32)), .val (.int (2 : Int32)), .val (.int (0 : Int32)), .val (.int (0 : Int32))] [(.int (own_isd (own_slice [y10, y14, y18, y22] 2 4) v3))]))
          refine own_iload X218 hx (hb hby at_194) rfl 196 rfl ?_
          refine own_icmpN X218 hx (hb hby at_196) (teq (by rw [show own_slice [y10, y14, y18, y22] 2 4 = [y18, y22] from rfl]; simp [own_isd, c214, c215])).2 199 rfl ?_
          refine own_iconst X218 hx (hb hby at_199) (1 : Int32) rfl 200 rfl ?_
          refine own_goto X218 hx (hb hby at_200) 204 ⟨by decide, by decide⟩ ?_
          refine own_nreturn X218 hx Bd.notSynchronized hG Bd.returns (by simp) (hb hby at_204) (by decide) (by decide) ?_
          rw [e218]
          exact ⟨rfl, N219⟩
      ·
        refine own_ifN X212 hx (hb hby at_128) ((if0 _ _).trans (feq c214).1) 131 rfl ?_
        refine own_iload X212 hx (hb hby at_131) rfl 133 rfl ?_
        refine own_iconst X212 hx (hb hby at_133) (3 : Int32) rfl 134 rfl ?_
        refine own_icmpN X212 hx (hb hby at_134) (flt (by decide)).2.2.1 137 rfl ?_
        refine own_iload X212 hx (hb hby at_137) rfl 139 rfl ?_
        refine own_iconst X212 hx (hb hby at_139) (3 : Int32) rfl 140 rfl ?_
        refine own_icmpN X212 hx (hb hby at_140) (tlt (by decide)).2.2.2 143 rfl ?_
        refine own_aload X212 hx (hb hby at_143) rfl rfl 145 rfl ?_
        refine own_iconst X212 hx (hb hby at_145) (3 : Int32) rfl 146 rfl ?_
        refine own_baload X212 hx hZ e212 V23 3 rfl y22 rfl (hb hby at_146) 147 rfl ?_
        refine own_callS X212 hx hZ hown (own_w hw 6 rfl) (own_w hw 7 rfl) (own_w hw 8 rfl) (own_w hw 9 rfl) (by decide) e212 (rm1 l Z a0 hw [] y22 h23 n0) (by rw [hml]; rfl) pd_1 (argsL := [(.int y22)]) rfl (rest := []) rfl (hb hby at_147) 0 (Nat.le_of_eq rfl) (by decide) (by decide) (by decide) (by decide) 150 rfl (fun T220 L220 v220 X220 hQ220 => ?_)
        obtain ⟨rfl, N220, e220⟩ := hQ220
        have N221 := Fr.app N213 N220
        show own_Go p e below G (T220.setTop (mkF m 150 #[.val (.int v0), .val (.int v1), .val (.int v2), .val (.int v3), .val (.ref a7), .val (.int (2 : Int32)), .val (.int (4 : Int32)), .val (.int (2 : Int32)), .unset, .unset] [(.int (own_dig y22))]))
        by_cases c222 : (own_dig y22) = (0 : Int32)
        ·
          refine own_ifY X220 hx (hb hby at_150) ((if0 _ _).trans (teq c222).1) 157 ⟨by decide, by decide⟩ ?_
          refine own_iconst X220 hx (hb hby at_157) (0 : Int32) rfl 158 rfl ?_
          refine own_istore X220 hx (hb hby at_158) #[.val (.int v0), .val (.int v1), .val (.int v2), .val (.int v3), .val (.ref a7), .val (.int (2 : Int32)), .val (.int (4 : Int32)), .val (.int (2 : Int32)), .val (.int (0 : Int32)), .unset] rfl 160 rfl ?_
          refine own_iload X220 hx (hb hby at_160) rfl 162 rfl ?_
          refine own_iconst X220 hx (hb hby at_162) (1 : Int32) rfl 163 rfl ?_
          refine own_icmpN X220 hx (hb hby at_163) (flt (by decide)).1 166 rfl ?_
          refine own_iload X220 hx (hb hby at_166) rfl 168 rfl ?_
          refine own_iloadN X220 hx (hb hby at_168) rfl 169 rfl ?_
          by_cases c223 : v3 < (2 : Int32)
          ·
            refine own_icmpY X220 hx (hb hby at_169) (tlt c223).2.2.1 181 ⟨by decide, by decide⟩ ?_
            refine own_iconst X220 hx (hb hby at_181) (0 : Int32) rfl 182 rfl ?_
            refine own_istore X220 hx (hb hby at_182) #[.val (.int v0), .val (.int v1), .val (.int v2), .val (.int v3), .val (.ref a7), .val (.int (2 : Int32)), .val (.int (4 : Int32)), .val (.int (2 : Int32)), .val (.int (0 : Int32)), .val (.int (0 : Int32))] rfl 184 rfl ?_
            refine own_aload X220 hx (hb hby at_184) rfl rfl 186 rfl ?_
            refine own_iload X220 hx (hb hby at_186) rfl 188 rfl ?_
            refine own_iload X220 hx (hb hby at_188) rfl 190 rfl ?_
            refine own_iloadN X220 hx (hb hby at_190) rfl 191 rfl ?_
            refine own_callS X220 hx hZ hown (own_w hw 2 rfl) (own_w hw 3 rfl) (own_w hw 4 rfl) (own_w hw 5 rfl) (by decide) e220 (rm2 l Z a0 hw [] a7 2 4 v3 [y10, y14, y18, y22] h23 n0 (by decide) (by simp) V23) (by rw [hml]; rfl) pd_0 (argsL := [(.ref a7), (.int (2 : Int32)), (.int (4 : Int32)), (.int v3)]) rfl (rest := []) rfl (hb hby at_191) 0 (Nat.le_of_eq rfl) (by decide) (by decide) (by decide) (by decide) 194 rfl (fun T224 L224 v224 X224 hQ224 => ?_)
            obtain ⟨rfl, N224, e224⟩ := hQ224
            have N225 := Fr.app N221 N224
            show own_Go p e below G (T224.setTop (mkF m 194 #[.val (.int v0), .val (.int v1), .val (.int v2), .val (.int v3), .val (.ref a7), .val (.int (2 : Int32)), .val (.int (4 : Int32)), .val (.int (2 : Int32)), .val (.int (0 : Int32)), .val (.int (0 : Int32))] [(.int (own_isd (own_slice [y10, y14, y18, y22] 2 4) v3))]))
            refine own_iload X224 hx (hb hby at_194) rfl 196 rfl ?_
            refine own_icmpN X224 hx (hb hby at_196) (teq (by rw [show own_slice [y10, y14, y18, y22] 2 4 = [y18, y22] from rfl]; simp [own_isd, c214, c222, c223])).2 199 rfl ?_
            refine own_iconst X224 hx (hb hby at_199) (1 : Int32) rfl 200 rfl ?_
            refine own_goto X224 hx (hb hby at_200) 204 ⟨by decide, by decide⟩ ?_
            refine own_nreturn X224 hx Bd.notSynchronized hG Bd.returns (by simp) (hb hby at_204) (by decide) (by decide) ?_
            rw [e224]
            exact ⟨rfl, N225⟩
          ·
            refine own_icmpN X220 hx (hb hby at_169) (flt c223).2.2.1 172 rfl ?_
            refine own_iload X220 hx (hb hby at_172) rfl 174 rfl ?_
            refine own_ifY X220 hx (hb hby at_174) ((if0 _ _).trans (teq (by decide)).1) 181 ⟨by decide, by decide⟩ ?_
            refine own_iconst X220 hx (hb hby at_181) (0 : Int32) rfl 182 rfl ?_
            refine own_istore X220 hx (hb hby at_182) #[.val (.int v0), .val (.int v1), .val (.int v2), .val (.int v3), .val (.ref a7), .val (.int (2 : Int32)), .val (.int (4 : Int32)), .val (.int (2 : Int32)), .val (.int (0 : Int32)), .val (.int (0 : Int32))] rfl 184 rfl ?_
            refine own_aload X220 hx (hb hby at_184) rfl rfl 186 rfl ?_
            refine own_iload X220 hx (hb hby at_186) rfl 188 rfl ?_
            refine own_iload X220 hx (hb hby at_188) rfl 190 rfl ?_
            refine own_iloadN X220 hx (hb hby at_190) rfl 191 rfl ?_
            refine own_callS X220 hx hZ hown (own_w hw 2 rfl) (own_w hw 3 rfl) (own_w hw 4 rfl) (own_w hw 5 rfl) (by decide) e220 (rm2 l Z a0 hw [] a7 2 4 v3 [y10, y14, y18, y22] h23 n0 (by decide) (by simp) V23) (by rw [hml]; rfl) pd_0 (argsL := [(.ref a7), (.int (2 : Int32)), (.int (4 : Int32)), (.int v3)]) rfl (rest := []) rfl (hb hby at_191) 0 (Nat.le_of_eq rfl) (by decide) (by decide) (by decide) (by decide) 194 rfl (fun T226 L226 v226 X226 hQ226 => ?_)
            obtain ⟨rfl, N226, e226⟩ := hQ226
            have N227 := Fr.app N221 N226
            show own_Go p e below G (T226.setTop (mkF m 194 #[.val (.int v0), .val (.int v1), .val (.int v2), .val (.int v3), .val (.ref a7), .val (.int (2 : Int32)), .val (.int (4 : Int32)), .val (.int (2 : Int32)), .val (.int (0 : Int32)), .val (.int (0 : Int32))] [(.int (own_isd (own_slice [y10, y14, y18, y22] 2 4) v3))]))
            refine own_iload X226 hx (hb hby at_194) rfl 196 rfl ?_
            refine own_icmpN X226 hx (hb hby at_196) (teq (by rw [show own_slice [y10, y14, y18, y22] 2 4 = [y18, y22] from rfl]; simp [own_isd, c214, c222, c223])).2 199 rfl ?_
            refine own_iconst X226 hx (hb hby at_199) (1 : Int32) rfl 200 rfl ?_
            refine own_goto X226 hx (hb hby at_200) 204 ⟨by decide, by decide⟩ ?_
            refine own_nreturn X226 hx Bd.notSynchronized hG Bd.returns (by simp) (hb hby at_204) (by decide) (by decide) ?_
            rw [e226]
            exact ⟨rfl, N227⟩
        ·
          refine own_ifN X220 hx (hb hby at_150) ((if0 _ _).trans (feq c222).1) 153 rfl ?_
          refine own_iconst X220 hx (hb hby at_153) (1 : Int32) rfl 154 rfl ?_
          refine own_goto X220 hx (hb hby at_154) 158 ⟨by decide, by decide⟩ ?_
          refine own_istore X220 hx (hb hby at_158) #[.val (.int v0), .val (.int v1), .val (.int v2), .val (.int v3), .val (.ref a7), .val (.int (2 : Int32)), .val (.int (4 : Int32)), .val (.int (2 : Int32)), .val (.int (1 : Int32)), .unset] rfl 160 rfl ?_
          refine own_iload X220 hx (hb hby at_160) rfl 162 rfl ?_
          refine own_iconst X220 hx (hb hby at_162) (1 : Int32) rfl 163 rfl ?_
          refine own_icmpN X220 hx (hb hby at_163) (flt (by decide)).1 166 rfl ?_
          refine own_iload X220 hx (hb hby at_166) rfl 168 rfl ?_
          refine own_iloadN X220 hx (hb hby at_168) rfl 169 rfl ?_
          by_cases c228 : v3 < (2 : Int32)
          ·
            refine own_icmpY X220 hx (hb hby at_169) (tlt c228).2.2.1 181 ⟨by decide, by decide⟩ ?_
            refine own_iconst X220 hx (hb hby at_181) (0 : Int32) rfl 182 rfl ?_
            refine own_istore X220 hx (hb hby at_182) #[.val (.int v0), .val (.int v1), .val (.int v2), .val (.int v3), .val (.ref a7), .val (.int (2 : Int32)), .val (.int (4 : Int32)), .val (.int (2 : Int32)), .val (.int (1 : Int32)), .val (.int (0 : Int32))] rfl 184 rfl ?_
            refine own_aload X220 hx (hb hby at_184) rfl rfl 186 rfl ?_
            refine own_iload X220 hx (hb hby at_186) rfl 188 rfl ?_
            refine own_iload X220 hx (hb hby at_188) rfl 190 rfl ?_
            refine own_iloadN X220 hx (hb hby at_190) rfl 191 rfl ?_
            refine own_callS X220 hx hZ hown (own_w hw 2 rfl) (own_w hw 3 rfl) (own_w hw 4 rfl) (own_w hw 5 rfl) (by decide) e220 (rm2 l Z a0 hw [] a7 2 4 v3 [y10, y14, y18, y22] h23 n0 (by decide) (by simp) V23) (by rw [hml]; rfl) pd_0 (argsL := [(.ref a7), (.int (2 : Int32)), (.int (4 : Int32)), (.int v3)]) rfl (rest := []) rfl (hb hby at_191) 0 (Nat.le_of_eq rfl) (by decide) (by decide) (by decide) (by decide) 194 rfl (fun T229 L229 v229 X229 hQ229 => ?_)
            obtain ⟨rfl, N229, e229⟩ := hQ229
            have N230 := Fr.app N221 N229
            show own_Go p e below G (T229.setTop (mkF m 194 #[.val (.int v0), .val (.int v1), .val (.int v2), .val (.int v3), .val (.ref a7), .val (.int (2 : Int32)), .val (.int (4 : Int32)), .val (.int (2 : Int32)), .val (.int (1 : Int32)), .val (.int (0 : Int32))] [(.int (own_isd (own_slice [y10, y14, y18, y22] 2 4) v3))]))
            refine own_iload X229 hx (hb hby at_194) rfl 196 rfl ?_
            refine own_icmpN X229 hx (hb hby at_196) (teq (by rw [show own_slice [y10, y14, y18, y22] 2 4 = [y18, y22] from rfl]; simp [own_isd, c214, c222, c228])).2 199 rfl ?_
            refine own_iconst X229 hx (hb hby at_199) (1 : Int32) rfl 200 rfl ?_
            refine own_goto X229 hx (hb hby at_200) 204 ⟨by decide, by decide⟩ ?_
            refine own_nreturn X229 hx Bd.notSynchronized hG Bd.returns (by simp) (hb hby at_204) (by decide) (by decide) ?_
            rw [e229]
            exact ⟨rfl, N230⟩
          ·
            refine own_icmpN X220 hx (hb hby at_169) (flt c228).2.2.1 172 rfl ?_
            refine own_iload X220 hx (hb hby at_172) rfl 174 rfl ?_
            refine own_ifN X220 hx (hb hby at_174) ((if0 _ _).trans (feq (by decide)).1) 177 rfl ?_
            refine own_iconst X220 hx (hb hby at_177) (1 : Int32) rfl 178 rfl ?_
            refine own_goto X220 hx (hb hby at_178) 182 ⟨by decide, by decide⟩ ?_
            refine own_istore X220 hx (hb hby at_182) #[.val (.int v0), .val (.int v1), .val (.int v2), .val (.int v3), .val (.ref a7), .val (.int (2 : Int32)), .val (.int (4 : Int32)), .val (.int (2 : Int32)), .val (.int (1 : Int32)), .val (.int (1 : Int32))] rfl 184 rfl ?_
            refine own_aload X220 hx (hb hby at_184) rfl rfl 186 rfl ?_
            refine own_iload X220 hx (hb hby at_186) rfl 188 rfl ?_
            refine own_iload X220 hx (hb hby at_188) rfl 190 rfl ?_
            refine own_iloadN X220 hx (hb hby at_190) rfl 191 rfl ?_
            refine own_callS X220 hx hZ hown (own_w hw 2 rfl) (own_w hw 3 rfl) (own_w hw 4 rfl) (own_w hw 5 rfl) (by decide) e220 (rm2 l Z a0 hw [] a7 2 4 v3 [y10, y14, y18, y22] h23 n0 (by decide) (by simp) V23) (by rw [hml]; rfl) pd_0 (argsL := [(.ref a7), (.int (2 : Int32)), (.int (4 : Int32)), (.int v3)]) rfl (rest := []) rfl (hb hby at_191) 0 (Nat.le_of_eq rfl) (by decide) (by decide) (by decide) (by decide) 194 rfl (fun T231 L231 v231 X231 hQ231 => ?_)
            obtain ⟨rfl, N231, e231⟩ := hQ231
            have N232 := Fr.app N221 N231
            show own_Go p e below G (T231.setTop (mkF m 194 #[.val (.int v0), .val (.int v1), .val (.int v2), .val (.int v3), .val (.ref a7), .val (.int (2 : Int32)), .val (.int (4 : Int32)), .val (.int (2 : Int32)), .val (.int (1 : Int32)), .val (.int (1 : Int32))] [(.int (own_isd (own_slice [y10, y14, y18, y22] 2 4) v3))]))
            refine own_iload X231 hx (hb hby at_194) rfl 196 rfl ?_
            refine own_icmpN X231 hx (hb hby at_196) (teq (by rw [show own_slice [y10, y14, y18, y22] 2 4 = [y18, y22] from rfl]; simp [own_isd, c214, c222, c228])).2 199 rfl ?_
            refine own_iconst X231 hx (hb hby at_199) (1 : Int32) rfl 200 rfl ?_
            refine own_goto X231 hx (hb hby at_200) 204 ⟨by decide, by decide⟩ ?_
            refine own_nreturn X231 hx Bd.notSynchronized hG Bd.returns (by simp) (hb hby at_204) (by decide) (by decide) ?_
            rw [e231]
            exact ⟨rfl, N232⟩
  ·
    refine own_iload X23 hx (hb hby at_46) rfl 48 rfl ?_
    refine own_iloadN X23 hx (hb hby at_48) rfl 49 rfl ?_
    refine own_ldcInt X23 hx hown (mvT hZ (own_w hw 1 rfl)) (hb hby at_49) 51 rfl ?_
    refine own_iand X23 hx (hb hby at_51) 52 rfl ?_
    refine own_iconst X23 hx (hb hby at_52) (5 : Int32) rfl 53 rfl ?_
    refine own_iload X23 hx (hb hby at_53) rfl 55 rfl ?_
    refine own_isub X23 hx (hb hby at_55) 56 rfl ?_
    show own_Go p e below G (T23.setTop (mkF m 56 #[.val (.int v0), .val (.int v1), .val (.int v2), .val (.int v3), .val (.ref a7), .val (.int (3 : Int32)), .unset, .unset, .unset, .unset] [(.int (2 : Int32)), (.int (v2 &&& (2147483647 : Int32))), (.int (3 : Int32))]))
    refine own_irem X23 hx (hb hby at_56) (by decide) 57 rfl ?_
    generalize hy233 : ((v2 &&& (2147483647 : Int32)) % (2 : Int32)) = y233
    have hm : y233 = 0 ∨ y233 = 1 := by
      obtain ⟨i, hi, he⟩ := own_mod v2 2 2 rfl (by decide)
      rw [← hy233, he]
      have q : i = 0 ∨ i = 1 := by omega
      rcases q with rfl | rfl <;> decide
    rcases hm with rfl | rfl
    ·
      refine own_iadd X23 hx (hb hby at_57) 58 rfl ?_
      show own_Go p e below G (T23.setTop (mkF m 58 #[.val (.int v0), .val (.int v1), .val (.int v2), .val (.int v3), .val (.ref a7), .val (.int (3 : Int32)), .unset, .unset, .unset, .unset] [(.int (3 : Int32))]))
      refine own_istore X23 hx (hb hby at_58) #[.val (.int v0), .val (.int v1), .val (.int v2), .val (.int v3), .val (.ref a7), .val (.int (3 : Int32)), .val (.int (3 : Int32)), .unset, .unset, .unset] rfl 60 rfl ?_
      refine own_iload X23 hx (hb hby at_60) rfl 62 rfl ?_
      refine own_iload X23 hx (hb hby at_62) rfl 64 rfl ?_
      refine own_isub X23 hx (hb hby at_64) 65 rfl ?_
      show own_Go p e below G (T23.setTop (mkF m 65 #[.val (.int v0), .val (.int v1), .val (.int v2), .val (.int v3), .val (.ref a7), .val (.int (3 : Int32)), .val (.int (3 : Int32)), .unset, .unset, .unset] [(.int (0 : Int32))]))
      refine own_istore X23 hx (hb hby at_65) #[.val (.int v0), .val (.int v1), .val (.int v2), .val (.int v3), .val (.ref a7), .val (.int (3 : Int32)), .val (.int (3 : Int32)), .val (.int (0 : Int32)), .unset, .unset] rfl 67 rfl ?_
      refine own_iload X23 hx (hb hby at_67) rfl 69 rfl ?_
      refine own_ifY X23 hx (hb hby at_69) ((if0 _ _).trans (tlt (by decide)).2.2.1) 87 ⟨by decide, by decide⟩ ?_
      refine own_iload X23 hx (hb hby at_87) rfl 89 rfl ?_
      refine own_iconst X23 hx (hb hby at_89) (1 : Int32) rfl 90 rfl ?_
      refine own_icmpY X23 hx (hb hby at_90) (tlt (by decide)).2.2.1 109 ⟨by decide, by decide⟩ ?_
      refine own_iload X23 hx (hb hby at_109) rfl 111 rfl ?_
      refine own_iconst X23 hx (hb hby at_111) (2 : Int32) rfl 112 rfl ?_
      refine own_icmpY X23 hx (hb hby at_112) (tlt (by decide)).2.2.1 131 ⟨by decide, by decide⟩ ?_
      refine own_iload X23 hx (hb hby at_131) rfl 133 rfl ?_
      refine own_iconst X23 hx (hb hby at_133) (3 : Int32) rfl 134 rfl ?_
      refine own_icmpN X23 hx (hb hby at_134) (flt (by decide)).2.2.1 137 rfl ?_
      refine own_iload X23 hx (hb hby at_137) rfl 139 rfl ?_
      refine own_iconst X23 hx (hb hby at_139) (3 : Int32) rfl 140 rfl ?_
      refine own_icmpY X23 hx (hb hby at_140) (flt (by decide)).2.2.2 153 ⟨by decide, by decide⟩ ?_
      refine own_iconst X23 hx (hb hby at_153) (1 : Int32) rfl 154 rfl ?_
      refine own_goto X23 hx (hb hby at_154) 158 ⟨by decide, by decide⟩ ?_
      refine own_istore X23 hx (hb hby at_158) #[.val (.int v0), .val (.int v1), .val (.int v2), .val (.int v3), .val (.ref a7), .val (.int (3 : Int32)), .val (.int (3 : Int32)), .val (.int (0 : Int32)), .val (.int (1 : Int32)), .unset] rfl 160 rfl ?_
      refine own_iload X23 hx (hb hby at_160) rfl 162 rfl ?_
      refine own_iconst X23 hx (hb hby at_162) (1 : Int32) rfl 163 rfl ?_
      refine own_icmpY X23 hx (hb hby at_163) (tlt (by decide)).1 181 ⟨by decide, by decide⟩ ?_
      refine own_iconst X23 hx (hb hby at_181) (0 : Int32) rfl 182 rfl ?_
      refine own_istore X23 hx (hb hby at_182) #[.val (.int v0), .val (.int v1), .val (.int v2), .val (.int v3), .val (.ref a7), .val (.int (3 : Int32)), .val (.int (3 : Int32)), .val (.int (0 : Int32)), .val (.int (1 : Int32)), .val (.int (0 : Int32))] rfl 184 rfl ?_
      refine own_aload X23 hx (hb hby at_184) rfl rfl 186 rfl ?_
      refine own_iload X23 hx (hb hby at_186) rfl 188 rfl ?_
      refine own_iload X23 hx (hb hby at_188) rfl 190 rfl ?_
      refine own_iloadN X23 hx (hb hby at_190) rfl 191 rfl ?_
      refine own_callS X23 hx hZ hown (own_w hw 2 rfl) (own_w hw 3 rfl) (own_w hw 4 rfl) (own_w hw 5 rfl) (by decide) e23 (rm2 l Z a0 hw [] a7 3 3 v3 [y10, y14, y18, y22] h23 n0 (by decide) (by simp) V23) (by rw [hml]; rfl) pd_0 (argsL := [(.ref a7), (.int (3 : Int32)), (.int (3 : Int32)), (.int v3)]) rfl (rest := []) rfl (hb hby at_191) 0 (Nat.le_of_eq rfl) (by decide) (by decide) (by decide) (by decide) 194 rfl (fun T234 L234 v234 X234 hQ234 => ?_)
      obtain ⟨rfl, N234, e234⟩ := hQ234
      have N235 := Fr.app N24 N234
      show own_Go p e below G (T234.setTop (mkF m 194 #[.val (.int v0), .val (.int v1), .val (.int v2), .val (.int v3), .val (.ref a7), .val (.int (3 : Int32)), .val (.int (3 : Int32)), .val (.int (0 : Int32)), .val (.int (1 : Int32)), .val (.int (0 : Int32))] [(.int (own_isd (own_slice [y10, y14, y18, y22] 3 3) v3))]))
      refine own_iload X234 hx (hb hby at_194) rfl 196 rfl ?_
      refine own_icmpN X234 hx (hb hby at_196) (teq (by rw [show own_slice [y10, y14, y18, y22] 3 3 = ([] : List Int32) from rfl]; simp [own_isd])).2 199 rfl ?_
      refine own_iconst X234 hx (hb hby at_199) (1 : Int32) rfl 200 rfl ?_
      refine own_goto X234 hx (hb hby at_200) 204 ⟨by decide, by decide⟩ ?_
      refine own_nreturn X234 hx Bd.notSynchronized hG Bd.returns (by simp) (hb hby at_204) (by decide) (by decide) ?_
      rw [e234]
      exact ⟨rfl, N235⟩
    ·
      refine own_iadd X23 hx (hb hby at_57) 58 rfl ?_
      show own_Go p e below G (T23.setTop (mkF m 58 #[.val (.int v0), .val (.int v1), .val (.int v2), .val (.int v3), .val (.ref a7), .val (.int (3 : Int32)), .unset, .unset, .unset, .unset] [(.int (4 : Int32))]))
      refine own_istore X23 hx (hb hby at_58) #[.val (.int v0), .val (.int v1), .val (.int v2), .val (.int v3), .val (.ref a7), .val (.int (3 : Int32)), .val (.int (4 : Int32)), .unset, .unset, .unset] rfl 60 rfl ?_
      refine own_iload X23 hx (hb hby at_60) rfl 62 rfl ?_
      refine own_iload X23 hx (hb hby at_62) rfl 64 rfl ?_
      refine own_isub X23 hx (hb hby at_64) 65 rfl ?_
      show own_Go p e below G (T23.setTop (mkF m 65 #[.val (.int v0), .val (.int v1), .val (.int v2), .val (.int v3), .val (.ref a7), .val (.int (3 : Int32)), .val (.int (4 : Int32)), .unset, .unset, .unset] [(.int (1 : Int32))]))
      refine own_istore X23 hx (hb hby at_65) #[.val (.int v0), .val (.int v1), .val (.int v2), .val (.int v3), .val (.ref a7), .val (.int (3 : Int32)), .val (.int (4 : Int32)), .val (.int (1 : Int32)), .unset, .unset] rfl 67 rfl ?_
      refine own_iload X23 hx (hb hby at_67) rfl 69 rfl ?_
      refine own_ifY X23 hx (hb hby at_69) ((if0 _ _).trans (tlt (by decide)).2.2.1) 87 ⟨by decide, by decide⟩ ?_
      refine own_iload X23 hx (hb hby at_87) rfl 89 rfl ?_
      refine own_iconst X23 hx (hb hby at_89) (1 : Int32) rfl 90 rfl ?_
      refine own_icmpY X23 hx (hb hby at_90) (tlt (by decide)).2.2.1 109 ⟨by decide, by decide⟩ ?_
      refine own_iload X23 hx (hb hby at_109) rfl 111 rfl ?_
      refine own_iconst X23 hx (hb hby at_111) (2 : Int32) rfl 112 rfl ?_
      refine own_icmpY X23 hx (hb hby at_112) (tlt (by decide)).2.2.1 131 ⟨by decide, by decide⟩ ?_
      refine own_iload X23 hx (hb hby at_131) rfl 133 rfl ?_
      refine own_iconst X23 hx (hb hby at_133) (3 : Int32) rfl 134 rfl ?_
      refine own_icmpN X23 hx (hb hby at_134) (flt (by decide)).2.2.1 137 rfl ?_
      refine own_iload X23 hx (hb hby at_137) rfl 139 rfl ?_
      refine own_iconst X23 hx (hb hby at_139) (3 : Int32) rfl 140 rfl ?_
      refine own_icmpN X23 hx (hb hby at_140) (tlt (by decide)).2.2.2 143 rfl ?_
      refine own_aload X23 hx (hb hby at_143) rfl rfl 145 rfl ?_
      refine own_iconst X23 hx (hb hby at_145) (3 : Int32) rfl 146 rfl ?_
      refine own_baload X23 hx hZ e23 V23 3 rfl y22 rfl (hb hby at_146) 147 rfl ?_
      refine own_callS X23 hx hZ hown (own_w hw 6 rfl) (own_w hw 7 rfl) (own_w hw 8 rfl) (own_w hw 9 rfl) (by decide) e23 (rm1 l Z a0 hw [] y22 h23 n0) (by rw [hml]; rfl) pd_1 (argsL := [(.int y22)]) rfl (rest := []) rfl (hb hby at_147) 0 (Nat.le_of_eq rfl) (by decide) (by decide) (by decide) (by decide) 150 rfl (fun T236 L236 v236 X236 hQ236 => ?_)
      obtain ⟨rfl, N236, e236⟩ := hQ236
      have N237 := Fr.app N24 N236
      show own_Go p e below G (T236.setTop (mkF m 150 #[.val (.int v0), .val (.int v1), .val (.int v2), .val (.int v3), .val (.ref a7), .val (.int (3 : Int32)), .val (.int (4 : Int32)), .val (.int (1 : Int32)), .unset, .unset] [(.int (own_dig y22))]))
      by_cases c238 : (own_dig y22) = (0 : Int32)
      ·
        refine own_ifY X236 hx (hb hby at_150) ((if0 _ _).trans (teq c238).1) 157 ⟨by decide, by decide⟩ ?_
        refine own_iconst X236 hx (hb hby at_157) (0 : Int32) rfl 158 rfl ?_
        refine own_istore X236 hx (hb hby at_158) #[.val (.int v0), .val (.int v1), .val (.int v2), .val (.int v3), .val (.ref a7), .val (.int (3 : Int32)), .val (.int (4 : Int32)), .val (.int (1 : Int32)), .val (.int (0 : Int32)), .unset] rfl 160 rfl ?_
        refine own_iload X236 hx (hb hby at_160) rfl 162 rfl ?_
        refine own_iconst X236 hx (hb hby at_162) (1 : Int32) rfl 163 rfl ?_
        refine own_icmpN X236 hx (hb hby at_163) (flt (by decide)).1 166 rfl ?_
        refine own_iload X236 hx (hb hby at_166) rfl 168 rfl ?_
        refine own_iloadN X236 hx (hb hby at_168) rfl 169 rfl ?_
        by_cases c239 : v3 < (1 : Int32)
        ·
          refine own_icmpY X236 hx (hb hby at_169) (tlt c239).2.2.1 181 ⟨by decide, by decide⟩ ?_
          refine own_iconst X236 hx (hb hby at_181) (0 : Int32) rfl 182 rfl ?_
          refine own_istore X236 hx (hb hby at_182) #[.val (.int v0), .val (.int v1), .val (.int v2), .val (.int v3), .val (.ref a7), .val (.int (3 : Int32)), .val (.int (4 : Int32)), .val (.int (1 : Int32)), .val (.int (0 : Int32)), .val (.int (0 : Int32))] rfl 184 rfl ?_
          refine own_aload X236 hx (hb hby at_184) rfl rfl 186 rfl ?_
          refine own_iload X236 hx (hb hby at_186) rfl 188 rfl ?_
          refine own_iload X236 hx (hb hby at_188) rfl 190 rfl ?_
          refine own_iloadN X236 hx (hb hby at_190) rfl 191 rfl ?_
          refine own_callS X236 hx hZ hown (own_w hw 2 rfl) (own_w hw 3 rfl) (own_w hw 4 rfl) (own_w hw 5 rfl) (by decide) e236 (rm2 l Z a0 hw [] a7 3 4 v3 [y10, y14, y18, y22] h23 n0 (by decide) (by simp) V23) (by rw [hml]; rfl) pd_0 (argsL := [(.ref a7), (.int (3 : Int32)), (.int (4 : Int32)), (.int v3)]) rfl (rest := []) rfl (hb hby at_191) 0 (Nat.le_of_eq rfl) (by decide) (by decide) (by decide) (by decide) 194 rfl (fun T240 L240 v240 X240 hQ240 => ?_)
          obtain ⟨rfl, N240, e240⟩ := hQ240
          have N241 := Fr.app N237 N240
          show own_Go p e below G (T240.setTop (mkF m 194 #[.val (.int v0), .val (.int v1), .val (.int v2), .val (.int v3), .val (.ref a7), .val (.int (3 : Int32)), .val (.int (4 : Int32)), .val (.int (1 : Int32)), .val (.int (0 : Int32)), .val (.int (0 : Int32))] [(.int (own_isd (own_slice [y10, y14, y18, y22] 3 4) v3))]))
          refine own_iload X240 hx (hb hby at_194) rfl 196 rfl ?_
          refine own_icmpN X240 hx (hb hby at_196) (teq (by rw [show own_slice [y10, y14, y18, y22] 3 4 = [y22] from rfl]; simp [own_isd, c238, c239])).2 199 rfl ?_
          refine own_iconst X240 hx (hb hby at_199) (1 : Int32) rfl 200 rfl ?_
          refine own_goto X240 hx (hb hby at_200) 204 ⟨by decide, by decide⟩ ?_
          refine own_nreturn X240 hx Bd.notSynchronized hG Bd.returns (by simp) (hb hby at_204) (by decide) (by decide) ?_
          rw [e240]
          exact ⟨rfl, N241⟩
        ·
          refine own_icmpN X236 hx (hb hby at_169) (flt c239).2.2.1 172 rfl ?_
          refine own_iload X236 hx (hb hby at_172) rfl 174 rfl ?_
          refine own_ifY X236 hx (hb hby at_174) ((if0 _ _).trans (teq (by decide)).1) 181 ⟨by decide, by decide⟩ ?_
          refine own_iconst X236 hx (hb hby at_181) (0 : Int32) rfl 182 rfl ?_
          refine own_istore X236 hx (hb hby at_182) #[.val (.int v0), .val (.int v1), .val (.int v2), .val (.int v3), .val (.ref a7), .val (.int (3 : Int32)), .val (.int (4 : Int32)), .val (.int (1 : Int32)), .val (.int (0 : Int32)), .val (.int (0 : Int32))] rfl 184 rfl ?_
          refine own_aload X236 hx (hb hby at_184) rfl rfl 186 rfl ?_
          refine own_iload X236 hx (hb hby at_186) rfl 188 rfl ?_
          refine own_iload X236 hx (hb hby at_188) rfl 190 rfl ?_
          refine own_iloadN X236 hx (hb hby at_190) rfl 191 rfl ?_
          refine own_callS X236 hx hZ hown (own_w hw 2 rfl) (own_w hw 3 rfl) (own_w hw 4 rfl) (own_w hw 5 rfl) (by decide) e236 (rm2 l Z a0 hw [] a7 3 4 v3 [y10, y14, y18, y22] h23 n0 (by decide) (by simp) V23) (by rw [hml]; rfl) pd_0 (argsL := [(.ref a7), (.int (3 : Int32)), (.int (4 : Int32)), (.int v3)]) rfl (rest := []) rfl (hb hby at_191) 0 (Nat.le_of_eq rfl) (by decide) (by decide) (by decide) (by decide) 194 rfl (fun T242 L242 v242 X242 hQ242 => ?_)
          obtain ⟨rfl, N242, e242⟩ := hQ242
          have N243 := Fr.app N237 N242
          show own_Go p e below G (T242.setTop (mkF m 194 #[.val (.int v0), .val (.int v1), .val (.int v2), .val (.int v3), .val (.ref a7), .val (.int (3 : Int32)), .val (.int (4 : Int32)), .val (.int (1 : Int32)), .val (.int (0 : Int32)), .val (.int (0 : Int32))] [(.int (own_isd (own_slice [y10, y14, y18, y22] 3 4) v3))]))
          refine own_iload X242 hx (hb hby at_194) rfl 196 rfl ?_
          refine own_icmpN X242 hx (hb hby at_196) (teq (by rw [show own_slice [y10, y14, y18, y22] 3 4 = [y22] from rfl]; simp [own_isd, c238, c239])).2 199 rfl ?_
          refine own_iconst X242 hx (hb hby at_199) (1 : Int32) rfl 200 rfl ?_
          refine own_goto X242 hx (hb hby at_200) 204 ⟨by decide, by decide⟩ ?_
          refine own_nreturn X242 hx Bd.notSynchronized hG Bd.returns (by simp) (hb hby at_204) (by decide) (by decide) ?_
          rw [e242]
          exact ⟨rfl, N243⟩
      ·
        refine own_ifN X236 hx (hb hby at_150) ((if0 _ _).trans (feq c238).1) 153 rfl ?_
        refine own_iconst X236 hx (hb hby at_153) (1 : Int32) rfl 154 rfl ?_
        refine own_goto X236 hx (hb hby at_154) 158 ⟨by decide, by decide⟩ ?_
        refine own_istore X236 hx (hb hby at_158) #[.val (.int v0), .val (.int v1), .val (.int v2), .val (.int v3), .val (.ref a7), .val (.int (3 : Int32)), .val (.int (4 : Int32)), .val (.int (1 : Int32)), .val (.int (1 : Int32)), .unset] rfl 160 rfl ?_
        refine own_iload X236 hx (hb hby at_160) rfl 162 rfl ?_
        refine own_iconst X236 hx (hb hby at_162) (1 : Int32) rfl 163 rfl ?_
        refine own_icmpN X236 hx (hb hby at_163) (flt (by decide)).1 166 rfl ?_
        refine own_iload X236 hx (hb hby at_166) rfl 168 rfl ?_
        refine own_iloadN X236 hx (hb hby at_168) rfl 169 rfl ?_
        by_cases c244 : v3 < (1 : Int32)
        ·
          refine own_icmpY X236 hx (hb hby at_169) (tlt c244).2.2.1 181 ⟨by decide, by decide⟩ ?_
          refine own_iconst X236 hx (hb hby at_181) (0 : Int32) rfl 182 rfl ?_
          refine own_istore X236 hx (hb hby at_182) #[.val (.int v0), .val (.int v1), .val (.int v2), .val (.int v3), .val (.ref a7), .val (.int (3 : Int32)), .val (.int (4 : Int32)), .val (.int (1 : Int32)), .val (.int (1 : Int32)), .val (.int (0 : Int32))] rfl 184 rfl ?_
          refine own_aload X236 hx (hb hby at_184) rfl rfl 186 rfl ?_
          refine own_iload X236 hx (hb hby at_186) rfl 188 rfl ?_
          refine own_iload X236 hx (hb hby at_188) rfl 190 rfl ?_
          refine own_iloadN X236 hx (hb hby at_190) rfl 191 rfl ?_
          refine own_callS X236 hx hZ hown (own_w hw 2 rfl) (own_w hw 3 rfl) (own_w hw 4 rfl) (own_w hw 5 rfl) (by decide) e236 (rm2 l Z a0 hw [] a7 3 4 v3 [y10, y14, y18, y22] h23 n0 (by decide) (by simp) V23) (by rw [hml]; rfl) pd_0 (argsL := [(.ref a7), (.int (3 : Int32)), (.int (4 : Int32)), (.int v3)]) rfl (rest := []) rfl (hb hby at_191) 0 (Nat.le_of_eq rfl) (by decide) (by decide) (by decide) (by decide) 194 rfl (fun T245 L245 v245 X245 hQ245 => ?_)
          obtain ⟨rfl, N245, e245⟩ := hQ245
          have N246 := Fr.app N237 N245
          show own_Go p e below G (T245.setTop (mkF m 194 #[.val (.int v0), .val (.int v1), .val (.int v2), .val (.int v3), .val (.ref a7), .val (.int (3 : Int32)), .val (.int (4 : Int32)), .val (.int (1 : Int32)), .val (.int (1 : Int32)), .val (.int (0 : Int32))] [(.int (own_isd (own_slice [y10, y14, y18, y22] 3 4) v3))]))
          refine own_iload X245 hx (hb hby at_194) rfl 196 rfl ?_
          refine own_icmpN X245 hx (hb hby at_196) (teq (by rw [show own_slice [y10, y14, y18, y22] 3 4 = [y22] from rfl]; simp [own_isd, c238, c244])).2 199 rfl ?_
          refine own_iconst X245 hx (hb hby at_199) (1 : Int32) rfl 200 rfl ?_
          refine own_goto X245 hx (hb hby at_200) 204 ⟨by decide, by decide⟩ ?_
          refine own_nreturn X245 hx Bd.notSynchronized hG Bd.returns (by simp) (hb hby at_204) (by decide) (by decide) ?_
          rw [e245]
          exact ⟨rfl, N246⟩
        ·
          refine own_icmpN X236 hx (hb hby at_169) (flt c244).2.2.1 172 rfl ?_
          refine own_iload X236 hx (hb hby at_172) rfl 174 rfl ?_
          refine own_ifN X236 hx (hb hby at_174) ((if0 _ _).trans (feq (by decide)).1) 177 rfl ?_
          refine own_iconst X236 hx (hb hby at_177) (1 : Int32) rfl 178 rfl ?_
          refine own_goto X236 hx (hb hby at_178) 182 ⟨by decide, by decide⟩ ?_
          refine own_istore X236 hx (hb hby at_182) #[.val (.int v0), .val (.int v1), .val (.int v2), .val (.int v3), .val (.ref a7), .val (.int (3 : Int32)), .val (.int (4 : Int32)), .val (.int (1 : Int32)), .val (.int (1 : Int32)), .val (.int (1 : Int32))] rfl 184 rfl ?_
          refine own_aload X236 hx (hb hby at_184) rfl rfl 186 rfl ?_
          refine own_iload X236 hx (hb hby at_186) rfl 188 rfl ?_
          refine own_iload X236 hx (hb hby at_188) rfl 190 rfl ?_
          refine own_iloadN X236 hx (hb hby at_190) rfl 191 rfl ?_
          refine own_callS X236 hx hZ hown (own_w hw 2 rfl) (own_w hw 3 rfl) (own_w hw 4 rfl) (own_w hw 5 rfl) (by decide) e236 (rm2 l Z a0 hw [] a7 3 4 v3 [y10, y14, y18, y22] h23 n0 (by decide) (by simp) V23) (by rw [hml]; rfl) pd_0 (argsL := [(.ref a7), (.int (3 : Int32)), (.int (4 : Int32)), (.int v3)]) rfl (rest := []) rfl (hb hby at_191) 0 (Nat.le_of_eq rfl) (by decide) (by decide) (by decide) (by decide) 194 rfl (fun T247 L247 v247 X247 hQ247 => ?_)
          obtain ⟨rfl, N247, e247⟩ := hQ247
          have N248 := Fr.app N237 N247
          show own_Go p e below G (T247.setTop (mkF m 194 #[.val (.int v0), .val (.int v1), .val (.int v2), .val (.int v3), .val (.ref a7), .val (.int (3 : Int32)), .val (.int (4 : Int32)), .val (.int (1 : Int32)), .val (.int (1 : Int32)), .val (.int (1 : Int32))] [(.int (own_isd (own_slice [y10, y14, y18, y22] 3 4) v3))]))
          refine own_iload X247 hx (hb hby at_194) rfl 196 rfl ?_
          refine own_icmpN X247 hx (hb hby at_196) (teq (by rw [show own_slice [y10, y14, y18, y22] 3 4 = [y22] from rfl]; simp [own_isd, c238, c244])).2 199 rfl ?_
          refine own_iconst X247 hx (hb hby at_199) (1 : Int32) rfl 200 rfl ?_
          refine own_goto X247 hx (hb hby at_200) 204 ⟨by decide, by decide⟩ ?_
          refine own_nreturn X247 hx Bd.notSynchronized hG Bd.returns (by simp) (hb hby at_204) (by decide) (by decide) ?_
          rw [e247]
          exact ⟨rfl, N248⟩
  ·
    refine own_iload X23 hx (hb hby at_46) rfl 48 rfl ?_
    refine own_iloadN X23 hx (hb hby at_48) rfl 49 rfl ?_
    refine own_ldcInt X23 hx hown (mvT hZ (own_w hw 1 rfl)) (hb hby at_49) 51 rfl ?_
    refine own_iand X23 hx (hb hby at_51) 52 rfl ?_
    refine own_iconst X23 hx (hb hby at_52) (5 : Int32) rfl 53 rfl ?_
    refine own_iload X23 hx (hb hby at_53) rfl 55 rfl ?_
    refine own_isub X23 hx (hb hby at_55) 56 rfl ?_
    show own_Go p e below G (T23.setTop (mkF m 56 #[.val (.int v0), .val (.int v1), .val (.int v2), .val (.int v3), .val (.ref a7), .val (.int (4 : Int32)), .unset, .unset, .unset, .unset] [(.int (1 : Int32)), (.int (v2 &&& (2147483647 : Int32))), (.int (4 : Int32))]))
    refine own_irem X23 hx (hb hby at_56) (by decide) 57 rfl ?_
    generalize hy249 : ((v2 &&& (2147483647 : Int32)) % (1 : Int32)) = y249
    have hm : y249 = 0 := by
      obtain ⟨i, hi, he⟩ := own_mod v2 1 1 rfl (by decide)
      rw [← hy249, he]
      have q : i = 0 := by omega
      rcases q with rfl <;> decide
    rcases hm with rfl
    ·
      refine own_iadd X23 hx (hb hby at_57) 58 rfl ?_
      show own_Go p e below G (T23.setTop (mkF m 58 #[.val (.int v0), .val (.int v1), .val (.int v2), .val (.int v3), .val (.ref a7), .val (.int (4 : Int32)), .unset, .unset, .unset, .unset] [(.int (4 : Int32))]))
      refine own_istore X23 hx (hb hby at_58) #[.val (.int v0), .val (.int v1), .val (.int v2), .val (.int v3), .val (.ref a7), .val (.int (4 : Int32)), .val (.int (4 : Int32)), .unset, .unset, .unset] rfl 60 rfl ?_
      refine own_iload X23 hx (hb hby at_60) rfl 62 rfl ?_
      refine own_iload X23 hx (hb hby at_62) rfl 64 rfl ?_
      refine own_isub X23 hx (hb hby at_64) 65 rfl ?_
      show own_Go p e below G (T23.setTop (mkF m 65 #[.val (.int v0), .val (.int v1), .val (.int v2), .val (.int v3), .val (.ref a7), .val (.int (4 : Int32)), .val (.int (4 : Int32)), .unset, .unset, .unset] [(.int (0 : Int32))]))
      refine own_istore X23 hx (hb hby at_65) #[.val (.int v0), .val (.int v1), .val (.int v2), .val (.int v3), .val (.ref a7), .val (.int (4 : Int32)), .val (.int (4 : Int32)), .val (.int (0 : Int32)), .unset, .unset] rfl 67 rfl ?_
      refine own_iload X23 hx (hb hby at_67) rfl 69 rfl ?_
      refine own_ifY X23 hx (hb hby at_69) ((if0 _ _).trans (tlt (by decide)).2.2.1) 87 ⟨by decide, by decide⟩ ?_
      refine own_iload X23 hx (hb hby at_87) rfl 89 rfl ?_
      refine own_iconst X23 hx (hb hby at_89) (1 : Int32) rfl 90 rfl ?_
      refine own_icmpY X23 hx (hb hby at_90) (tlt (by decide)).2.2.1 109 ⟨by decide, by decide⟩ ?_
      refine own_iload X23 hx (hb hby at_109) rfl 111 rfl ?_
      refine own_iconst X23 hx (hb hby at_111) (2 : Int32) rfl 112 rfl ?_
      refine own_icmpY X23 hx (hb hby at_112) (tlt (by decide)).2.2.1 131 ⟨by decide, by decide⟩ ?_
      refine own_iload X23 hx (hb hby at_131) rfl 133 rfl ?_
      refine own_iconst X23 hx (hb hby at_133) (3 : Int32) rfl 134 rfl ?_
      refine own_icmpY X23 hx (hb hby at_134) (tlt (by decide)).2.2.1 153 ⟨by decide, by decide⟩ ?_
      refine own_iconst X23 hx (hb hby at_153) (1 : Int32) rfl 154 rfl ?_
      refine own_goto X23 hx (hb hby at_154) 158 ⟨by decide, by decide⟩ ?_
      refine own_istore X23 hx (hb hby at_158) #[.val (.int v0), .val (.int v1), .val (.int v2), .val (.int v3), .val (.ref a7), .val (.int (4 : Int32)), .val (.int (4 : Int32)), .val (.int (0 : Int32)), .val (.int (1 : Int32)), .unset] rfl 160 rfl ?_
      refine own_iload X23 hx (hb hby at_160) rfl 162 rfl ?_
      refine own_iconst X23 hx (hb hby at_162) (1 : Int32) rfl 163 rfl ?_
      refine own_icmpY X23 hx (hb hby at_163) (tlt (by decide)).1 181 ⟨by decide, by decide⟩ ?_
      refine own_iconst X23 hx (hb hby at_181) (0 : Int32) rfl 182 rfl ?_
      refine own_istore X23 hx (hb hby at_182) #[.val (.int v0), .val (.int v1), .val (.int v2), .val (.int v3), .val (.ref a7), .val (.int (4 : Int32)), .val (.int (4 : Int32)), .val (.int (0 : Int32)), .val (.int (1 : Int32)), .val (.int (0 : Int32))] rfl 184 rfl ?_
      refine own_aload X23 hx (hb hby at_184) rfl rfl 186 rfl ?_
      refine own_iload X23 hx (hb hby at_186) rfl 188 rfl ?_
      refine own_iload X23 hx (hb hby at_188) rfl 190 rfl ?_
      refine own_iloadN X23 hx (hb hby at_190) rfl 191 rfl ?_
      refine own_callS X23 hx hZ hown (own_w hw 2 rfl) (own_w hw 3 rfl) (own_w hw 4 rfl) (own_w hw 5 rfl) (by decide) e23 (rm2 l Z a0 hw [] a7 4 4 v3 [y10, y14, y18, y22] h23 n0 (by decide) (by simp) V23) (by rw [hml]; rfl) pd_0 (argsL := [(.ref a7), (.int (4 : Int32)), (.int (4 : Int32)), (.int v3)]) rfl (rest := []) rfl (hb hby at_191) 0 (Nat.le_of_eq rfl) (by decide) (by decide) (by decide) (by decide) 194 rfl (fun T250 L250 v250 X250 hQ250 => ?_)
      obtain ⟨rfl, N250, e250⟩ := hQ250
      have N251 := Fr.app N24 N250
      show own_Go p e below G (T250.setTop (mkF m 194 #[.val (.int v0), .val (.int v1), .val (.int v2), .val (.int v3), .val (.ref a7), .val (.int (4 : Int32)), .val (.int (4 : Int32)), .val (.int (0 : Int32)), .val (.int (1 : Int32)), .val (.int (0 : Int32))] [(.int (own_isd (own_slice [y10, y14, y18, y22] 4 4) v3))]))
      refine own_iload X250 hx (hb hby at_194) rfl 196 rfl ?_
      refine own_icmpN X250 hx (hb hby at_196) (teq (by rw [show own_slice [y10, y14, y18, y22] 4 4 = ([] : List Int32) from rfl]; simp [own_isd])).2 199 rfl ?_
      refine own_iconst X250 hx (hb hby at_199) (1 : Int32) rfl 200 rfl ?_
      refine own_goto X250 hx (hb hby at_200) 204 ⟨by decide, by decide⟩ ?_
      refine own_nreturn X250 hx Bd.notSynchronized hG Bd.returns (by simp) (hb hby at_204) (by decide) (by decide) ?_
      rw [e250]
      exact ⟨rfl, N251⟩
set_option maxRecDepth 65536 in
set_option maxHeartbeats 40000000 in
theorem comes_1 {Post : Tables → Env → Array Value → State → Outcome → State → Prop} (hpost : ∀ tb e args s v u, (limb_1_1.after args s (.returned v) u = true ∧ limb_1_2.after args s (.returned v) u = true ∧ True) → FrameEnd s (.returned v) u (Jvm.fieldLocs frame_1_writes args s ++ Jvm.arrayLocs frame_1_arrays args s ++ Jvm.staticLocs frame_1_statics s) 16 128 → Post tb e args s (.returned v) u) :
    ArmFor flags0 classFile x code maxLocals ret World_1 tables_1 room_1 Calls_1 rest_1 Pre_1 Post := by
  intro l hfl _ _ p e ha hc hk s m args below hf hA hF happ hP
  obtain ⟨hcalls, hrest, hpre⟩ := hP
  obtain ⟨-, -, -, hnamed, -, -, -, hat⟩ := (Spec.applies_iff hf).mp happ
  obtain ⟨hg, hn⟩ := and_e (Cond.before_iff.mp (show (Jvm.Cond.and given_1 narrow_1).before args s = true from hpre))
  obtain ⟨hcount, k0⟩ := and_e hg
  obtain ⟨q0, k1⟩ := and_e k0
  obtain ⟨q1, k2⟩ := and_e k1
  obtain ⟨q2, k3⟩ := and_e k2
  have q3 := k3
  obtain ⟨w0, w1, w2, w3, rfl⟩ : ∃ w0 w1 w2 w3 : Value, args = #[w0, w1, w2, w3] := by
    have hs : args.size = 4 := by simpa [Cond.value, given_1] using hcount
    obtain ⟨L⟩ := args
    match L, hs with
    | [w0, w1, w2, w3], _ => exact ⟨w0, w1, w2, w3, rfl⟩
  have hw := fun d (hd : d ∈ tables_1) => atoms_spec (ws := Jvm.Cond.code x code maxLocals ret :: tables_1) hat d (List.mem_cons_of_mem _ hd)
  have hfit : Fit s := fun {y c} hc i hi => by
    obtain ⟨ha, rfl⟩ := Array.getElem?_eq_some_iff.mp hc
    have q := List.all_eq_true.mp ((Array.all_eq_true_iff_forall_mem.mp hF) _ (Array.getElem_mem ha)) i (List.mem_range.mpr hi)
    simpa [Array.getElem?_eq_getElem hi] using q
  obtain ⟨i0, r0⟩ := is_v q0
  obtain rfl : w0 = (.int i0) := Option.some.inj r0
  obtain ⟨i1, r1⟩ := is_v q1
  obtain rfl : w1 = (.int i1) := Option.some.inj r1
  obtain ⟨i2, r2⟩ := is_v q2
  obtain rfl : w2 = (.int i2) := Option.some.inj r2
  obtain ⟨i3, r3⟩ := is_v q3
  obtain rfl : w3 = (.int i3) := Option.some.inj r3
  obtain ⟨n, o, h1, h2, h3, _, L, rfl, ⟨rfl, N⟩, hq⟩ := rm0 l s _ hw tables_1 i0 i1 i2 i3 s.heap s.heap.size (Nat.le_refl _) p e ha hc hk s m _ below hf ((Spec.applies_iff_loose hf).mp happ).1 ⟨rfl, State.Warmed39.refl s, rfl⟩ trivial
  refine ⟨n, _, h1, h2, h3, hpost _ _ _ _ _ _ ⟨Cond.after_iff.mpr rfl, Cond.after_iff.mpr (eq_i res_at (Term.int_eval (1)) rfl), trivial⟩ ⟨hq.1, hq.2.1, (hq.2.2.sift fun y hy => Or.inr (N y hy)).mono (by decide) (by decide)⟩⟩
theorem main_1_1 : Claimed_1_1 := comes_1 fun _ _ _ _ _ _ h hF => ⟨h.1, hF⟩
theorem main_1_2 : Claimed_1_2 := comes_1 fun _ _ _ _ _ _ h hF => ⟨h.2.1, hF⟩
end Jvm.Pilot.@@N@@
namespace Jvm.Pilot.@@N@@
open Jvm Jvm.ClassFile Sem Op Lib Jvm.Free Jvm.Stand Jvm.Pilot.@@N@@.Jvm.D
/-! MADE BY PROGRAM (witnessworld.py) out of the Statement's table words and the real class files: 9 classes; the members and pool entries that the words name. The judged class is class 1, her method 2. -/
namespace start1
open Jvm.ClassFile
def u (s : String) : CpInfo := .utf8 (stringToUtf16 s)
/-- a pool by its gaps: so many unusable entries, then the entry; so many at the end -/
def gap : Nat → List CpInfo → List CpInfo
  | 0, r => r
  | n + 1, r => .unusable :: gap n r
def poolList (es : List (Nat × CpInfo)) (last : Nat) : List CpInfo := es.foldr (fun e r => gap e.1 (e.2 :: r)) (gap last [])
def pool (es : List (Nat × CpInfo)) (last : Nat) : Array CpInfo := ⟨poolList es last⟩
def fileOf (pool : Array CpInfo) (this : Nat) (attrs : Array Attribute := #[]) (ms : Array MethodInfo := #[]) (fl : Nat := 33) (sup : Nat := 0) (ifs : Array Nat := #[]) (fds : Array FieldInfo := #[]) : ClassFile where
  minorVersion := 0
  majorVersion := 65
  constantPool := pool
  accessFlags := fl
  thisClass := this
  superClass := sup
  interfaces := ifs
  fields := fds
  methods := ms
  attributes := attrs
def plain (name : String) (sup : Option ClassId) : Class where
  name := name
  kind := .ordinary
  loader := none
  accessFlags := 33
  super := sup
  interfaces := #[]
  cf := none
  fields := #[]
  methods := #[]
  instanceTypes := #[]
  staticTypes := #[]
  resolved := #[]
  callSites := []
  init := .initialized
  statics := none
  mirror := none

def pool0 : Array CpInfo := pool [(5, u "<init>"), (0, u "()V"), (1, .class_ 10), (1, u "java/lang/Object")] 113

def k0m0 : Method := { name := "<init>", desc := "()V", sig := { parameters := [], returnType := none }, accessFlags := 1, code := none }
/-- java/lang/Object -/
def k0 : Class := { plain "java/lang/Object" none with
  accessFlags := 33
  interfaces := #[]
  cf := some (fileOf pool0 8 #[] #[{ accessFlags := 1, nameIndex := 5, descriptorIndex := 6, attributes := #[] }] 33 0 #[] #[])
  fields := #[]
  methods := #[k0m0]
  instanceTypes := #[]
  staticTypes := #[]
  resolved := Array.replicate 124 none
  statics := none }

def pool1 : Array CpInfo := pool [(2, .class_ 4), (1, u "java/lang/Object"), (0, u "<init>"), (0, u "()V"), (0, .integer 2147483647), (0, .methodref 9 10), (0, .class_ 11), (0, .nameAndType 12 13), (0, u "com/example/mapweft/mapweft/release/DecimalDigitsIsDigitsPinLaw"), (0, u "digit"), (0, u "(B)Z"), (0, .methodref 15 16), (0, .class_ 17), (0, .nameAndType 18 19), (0, u "com/example/mapweft/mapweft/release/DecimalDigits"), (0, u "isDigits"), (0, u "([BIII)Z"), (3, u "law"), (0, u "(IIII)Z")] 4

def k1m0 : Method := { name := "<init>", desc := "()V", sig := { parameters := [], returnType := none }, accessFlags := 1, code := none }
def k1c1 : Code := { maxStack := 2, maxLocals := 1, code := method_2_code, exceptionTable := #[], attributes := #[] }
def k1m1 : Method := { name := "digit", desc := "(B)Z", sig := { parameters := [.byte], returnType := some .boolean }, accessFlags := 10, code := some k1c1 }
def k1c2 : Code := { maxStack := 4, maxLocals := 10, code := code, exceptionTable := #[], attributes := #[] }
def k1m2 : Method := { name := "law", desc := "(IIII)Z", sig := { parameters := [.int, .int, .int, .int], returnType := some .boolean }, accessFlags := 9, code := some k1c2 }
/-- com/example/mapweft/mapweft/release/DecimalDigitsIsDigitsPinLaw -/
def k1 : Class := { plain "com/example/mapweft/mapweft/release/DecimalDigitsIsDigitsPinLaw" (some 0) with
  accessFlags := 49
  interfaces := #[]
  cf := some (fileOf pool1 9 #[] #[{ accessFlags := 1, nameIndex := 5, descriptorIndex := 6, attributes := #[] }, { accessFlags := 10, nameIndex := 12, descriptorIndex := 13, attributes := #[] }, { accessFlags := 9, nameIndex := 23, descriptorIndex := 24, attributes := #[] }] 49 2 #[] #[])
  fields := #[]
  methods := #[k1m0, k1m1, k1m2]
  instanceTypes := #[]
  staticTypes := #[]
  resolved := Array.replicate 29 none
  statics := none }

def pool2 : Array CpInfo := pool [(2, .class_ 4), (1, u "java/lang/Object"), (0, u "<init>"), (0, u "()V"), (13, .class_ 22), (1, u "com/example/mapweft/mapweft/release/DecimalDigits"), (0, u "isDigits"), (0, u "([BIII)Z")] 16

def k2m0 : Method := { name := "<init>", desc := "()V", sig := { parameters := [], returnType := none }, accessFlags := 2, code := none }
def k2c1 : Code := { maxStack := 2, maxLocals := 5, code := prog_13_method_2_code, exceptionTable := #[], attributes := #[] }
def k2m1 : Method := { name := "isDigits", desc := "([BIII)Z", sig := { parameters := [(.array .byte), .int, .int, .int], returnType := some .boolean }, accessFlags := 8, code := some k2c1 }
/-- com/example/mapweft/mapweft/release/DecimalDigits -/
def k2 : Class := { plain "com/example/mapweft/mapweft/release/DecimalDigits" (some 0) with
  accessFlags := 49
  interfaces := #[]
  cf := some (fileOf pool2 20 #[] #[{ accessFlags := 2, nameIndex := 5, descriptorIndex := 6, attributes := #[] }, { accessFlags := 8, nameIndex := 23, descriptorIndex := 24, attributes := #[] }] 49 2 #[] #[])
  fields := #[]
  methods := #[k2m0, k2m1]
  instanceTypes := #[]
  staticTypes := #[]
  resolved := Array.replicate 41 none
  statics := none }

def pool3 : Array CpInfo := pool [(1, u "java/lang/Cloneable"), (0, .class_ 1), (0, u "java/lang/Object"), (0, .class_ 3)] 3

/-- java/lang/Cloneable -/
def k3 : Class := { plain "java/lang/Cloneable" (some 0) with
  accessFlags := 1537
  interfaces := #[]
  cf := some (fileOf pool3 2 #[] #[] 1537 4 #[] #[])
  fields := #[]
  methods := #[]
  instanceTypes := #[]
  staticTypes := #[]
  resolved := Array.replicate 8 none
  statics := none }

def pool4 : Array CpInfo := pool [(1, u "java/io/Serializable"), (0, .class_ 1), (0, u "java/lang/Object"), (0, .class_ 3)] 3

/-- java/io/Serializable -/
def k4 : Class := { plain "java/io/Serializable" (some 0) with
  accessFlags := 1537
  interfaces := #[]
  cf := some (fileOf pool4 2 #[] #[] 1537 4 #[] #[])
  fields := #[]
  methods := #[]
  instanceTypes := #[]
  staticTypes := #[]
  resolved := Array.replicate 8 none
  statics := none }

/-- the primitive byte -/
def k5 : Class := { plain "byte" none with kind := .primitive 'B', accessFlags := 0x411 }
/-- [B -/
def k6 : Class := { plain "[B" (some 0) with kind := .array 5 .byte, interfaces := #[3, 4], accessFlags := 1041 }

/-- the primitive int -/
def k7 : Class := { plain "int" none with kind := .primitive 'I', accessFlags := 0x411 }
/-- [I -/
def k8 : Class := { plain "[I" (some 0) with kind := .array 7 .int, interfaces := #[3, 4], accessFlags := 1041 }

def heap : Heap := #[]
def classes : Array Class := #[k0, k1, k2, k3, k4, k5, k6, k7, k8]
def interned : List (Array UInt16 × Addr) := []
def slotsUsed : Nat := 0
def theMethod : MethodId := ⟨1, 2⟩
def args0 : Array Value := #[.int 808464432, .int 1, .int 2, .int 3]
def aboutOver (below : List Frame) : State where
  vm := { classes := classes, interned := interned.toArray }
  heap := heap
  slotsUsed := slotsUsed
  threads := #[{ frames := .invoking theMethod args0 :: below }]
def below0 : List Frame := [.native { method := ⟨0, 0⟩, args := #[] }]
def about1 : State := aboutOver below0
def p0 : Program := .bare "" "" ""
def e0 : Env := launch0.env 0 0 0
theorem w_frames : about1.frames = Frame.invoking theMethod args0 :: below0 := rfl
set_option maxRecDepth 65536 in
theorem w_args : argsFit about1.vm theMethod args0 = true := by decide +kernel
set_option maxRecDepth 65536 in
theorem w_heap : heapFits about1 = true := by decide +kernel
set_option maxRecDepth 65536 in
theorem w_runnable : about1.curStatus? = some .runnable := by decide +kernel
set_option maxRecDepth 65536 in
theorem w_alone : about1.alone = true := by decide +kernel
set_option maxRecDepth 65536 in
theorem w_named : about1.methodNamed? x = some theMethod := by decide +kernel
set_option maxRecDepth 65536 in
theorem w_hears : about1.hears theMethod below0 = true := by decide +kernel
set_option maxRecDepth 65536 in
theorem w_ripe : about1.ripe theMethod args0 below0 = true := by decide +kernel
theorem w_running : about1.status = .running := rfl
set_option maxRecDepth 65536 in
theorem w_room : about1.hasRoom e0.platform room_1 = true :=
  launch0.hasRoom_least _ room_1 (by decide +kernel) (by decide +kernel) (by decide +kernel) (by decide +kernel) (by decide +kernel) (by decide +kernel)
theorem allAtoms_all (ts : List Jvm.Cond) (a : Array Jvm.Value) (st : Jvm.State) : (allAtoms ts).before a st = ts.all (fun c => c.before a st) := by
  induction ts with
  | nil => rfl
  | cons c t ih =>
    show (Jvm.Cond.and c (allAtoms t)).before a st = _
    rw [Jvm.Cond.before_and, ih, List.all_cons]
def words1 : List Jvm.Cond := Jvm.Cond.code x code maxLocals ret :: tables_1
/-- a 'code' word, met by the world's own term for the bytes: nothing is compared byte by byte -/
theorem code_word {y : MethodName} {bytes : ByteArray} {mx : Nat} {rt : Option FieldType} {a : Array Value} {s : State} {m : MethodId} {meth : Method} {c : Code} (h1 : s.methodNamed? y = some m) (h2 : s.vm.method? m = some meth) (h3 : meth.code = some c) (h4 : c.code = bytes)
    (h5 : (c.maxLocals == mx && c.exceptionTable.isEmpty && decide (c.maxStack ≤ mostOperands) && decide (meth.sig.returnType = rt) && !meth.locks && decide (parseMethodDescriptor y.desc = some meth.sig)) = true) : (Jvm.Cond.code y bytes mx rt).before a s = true := by
  simp only [Bool.and_eq_true, beq_iff_eq, Bool.not_eq_true', decide_eq_true_eq] at h5
  obtain ⟨⟨⟨⟨⟨g1, g2⟩, g3⟩, g4⟩, g5⟩, g6⟩ := h5
  simp [Cond.before, Cond.holds, Cond.value, h1, h2, h3, h4, g1, g2, g3, g4, g5, g6]
def isCode : Jvm.Cond → Bool
  | .code _ _ _ _ => true
  | _ => false
theorem all_split {L : List Jvm.Cond} {P : Jvm.Cond → Bool} (h1 : L.all (fun c => isCode c || P c) = true) (h2 : ∀ c ∈ L.filter isCode, P c = true) : L.all P = true := by
  refine List.all_eq_true.mpr fun c hc => ?_
  have h := List.all_eq_true.mp h1 c hc
  rcases Bool.eq_false_or_eq_true (isCode c) with hi | hi
  · exact h2 c (List.mem_filter.mpr ⟨hc, hi⟩)
  · simpa [hi] using h
set_option maxRecDepth 65536 in
theorem w_c0 : (Jvm.Cond.code x code maxLocals ret).before args0 about1 = true := code_word (m := ⟨1, 2⟩) (meth := k1m2) (c := k1c2) (by decide +kernel) rfl rfl rfl (by decide +kernel)
set_option maxRecDepth 65536 in
theorem w_c1 : (Jvm.Cond.code ({ cls := "com/example/mapweft/mapweft/release/DecimalDigits", name := "isDigits", desc := "([BIII)Z" } : Jvm.MethodName) prog_13_method_2_code (5 : Nat) (Option.some Jvm.ClassFile.FieldType.boolean)).before args0 about1 = true := code_word (m := ⟨2, 1⟩) (meth := k2m1) (c := k2c1) (by decide +kernel) rfl rfl rfl (by decide +kernel)
set_option maxRecDepth 65536 in
theorem w_c2 : (Jvm.Cond.code ({ cls := "com/example/mapweft/mapweft/release/DecimalDigitsIsDigitsPinLaw", name := "digit", desc := "(B)Z" } : Jvm.MethodName) method_2_code (1 : Nat) (Option.some Jvm.ClassFile.FieldType.boolean)).before args0 about1 = true := code_word (m := ⟨1, 1⟩) (meth := k1m1) (c := k1c1) (by decide +kernel) rfl rfl rfl (by decide +kernel)
def codes1 : List Jvm.Cond := [Jvm.Cond.code x code maxLocals ret, Jvm.Cond.code ({ cls := "com/example/mapweft/mapweft/release/DecimalDigits", name := "isDigits", desc := "([BIII)Z" } : Jvm.MethodName) prog_13_method_2_code (5 : Nat) (Option.some Jvm.ClassFile.FieldType.boolean), Jvm.Cond.code ({ cls := "com/example/mapweft/mapweft/release/DecimalDigitsIsDigitsPinLaw", name := "digit", desc := "(B)Z" } : Jvm.MethodName) method_2_code (1 : Nat) (Option.some Jvm.ClassFile.FieldType.boolean)]
set_option maxRecDepth 65536 in
theorem codes_eq : words1.filter isCode = codes1 := rfl
theorem w_codes : ∀ c ∈ words1.filter isCode, c.before args0 about1 = true := by
  rw [codes_eq]
  intro c hc
  simp only [codes1, List.mem_cons, List.not_mem_nil, or_false] at hc
  rcases hc with rfl | rfl | rfl
  · exact w_c0
  · exact w_c1
  · exact w_c2
set_option maxRecDepth 65536 in
theorem w_t1 : words1.all (fun c => isCode c || c.before args0 about1) = true := by decide +kernel
theorem w_tables : (allAtoms (Jvm.Cond.code x code maxLocals ret :: tables_1)).before args0 about1 = true := by
  rw [allAtoms_all]
  show words1.all (fun c => c.before args0 about1) = true
  refine all_split ?_ w_codes
  rw [w_t1]
set_option maxRecDepth 65536 in
theorem w_case : (Jvm.Cond.and given_1 narrow_1).before args0 about1 = true := by decide +kernel
theorem w_applies : (headSpec (Jvm.Cond.code x code maxLocals ret :: tables_1) room_1).applies x e0.platform about1 = true :=
  (Spec.applies_iff w_frames).mpr ⟨w_running, w_runnable, w_alone, w_named, w_hears, w_ripe, w_room, w_tables⟩
theorem atStart : AtStart classFile x code maxLocals ret World_1 tables_1 room_1 Calls_1 rest_1 Pre_1 launch0 p0 e0 about1 theMethod args0 below0 :=
  ⟨lists_1, trivial, launch0.admits_env _ _ _, launch0.least_env, fairChoices_fair.cas, fairChoices_fair.clock, w_frames, w_args, w_heap, w_applies, trivial, trivial, w_case⟩
end start1
theorem witness_1 : WitnessClaimed_1 := ⟨start1.p0, start1.e0, start1.about1, start1.theMethod, start1.args0, start1.below0, start1.atStart⟩
end Jvm.Pilot.@@N@@

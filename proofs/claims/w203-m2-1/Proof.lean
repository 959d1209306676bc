import JvmDerived
import JvmDerived.Pilot.@@N@@Statement
import JvmDerived.Pilot.@@N@@Code
set_option linter.unusedVariables false
set_option linter.unusedSimpArgs false
namespace Jvm.Pilot.@@N@@
open Jvm Jvm.ClassFile Sem Op Lib Jvm.Free Jvm.Stand Jvm.LawKit Jvm.RoadKit Bundle Jvm.Pilot.@@N@@.Jvm.D
def own_Go (p : Program) (e : Env) (below : List Frame) (G : State → Outcome → Prop) (σ : State) : Prop := ∃ U o, Steps p.tables e below σ U ∧ U.status = .running ∧ Ended U below o ∧ G U o
theorem own_go {p : Program} {e : Env} {below : List Frame} {G : State → Outcome → Prop} {σ σ' : State} (h : ∀ t, Steps p.tables e below σ' t → Steps p.tables e below σ t) (k : own_Go p e below G σ') : own_Go p e below G σ := by
  obtain ⟨U, o, h1, h2⟩ := k
  exact ⟨U, o, h _ h1, h2⟩
def own_Post (s : State) (Q : Option Value → Heap → List Loc → Prop) (C S : Nat) (U : State) (o : Outcome) : Prop := ∃ v L, o = .returned v ∧ Q v U.heap L ∧ FrameEnd s o U L C S
section OwnSteps
variable {p : Program} {l : Launch} {e : Env} {R : Room} {s : State} {m : MethodId} {args : Array Value} {below : List Frame} {meth : Method} {c : Code} {T : State} {locs : List Loc} {cells slots : Nat} {G : State → Outcome → Prop} {Ls : Array Slot} {rest : List Value} {pc : Nat}
theorem own_iloadN (X : Stand p l e R s m args below meth c T locs cells slots) (hx : p.tables.exec = Jvm.exec) {i : Fin 4} {v : Int32} (hd : decode c.code pc = .ok (.iload_n i, 1)) (hl : Ls[i.val]? = some (.val (.int v))) (pc' : Nat) (hp : pc + 1 = pc') (k : own_Go p e below G (T.setTop (mkF m pc' Ls (.int v :: rest)))) : own_Go p e below G (T.setTop (mkF m pc Ls (rest))) := by
  subst hp; exact own_go (fun t q => XS.iloadN X.here hx rfl hd hl q) k
theorem own_lloadN (X : Stand p l e R s m args below meth c T locs cells slots) (hx : p.tables.exec = Jvm.exec) {i : Fin 4} {v : Int64} (hd : decode c.code pc = .ok (.lload_n i, 1)) (hl : Ls[i.val]? = some (.val (.long v))) (pc' : Nat) (hp : pc + 1 = pc') (k : own_Go p e below G (T.setTop (mkF m pc' Ls (.long v :: rest)))) : own_Go p e below G (T.setTop (mkF m pc Ls (rest))) := by
  subst hp; exact own_go (fun t q => XS.lloadN X.here hx rfl hd hl q) k
theorem own_lload (X : Stand p l e R s m args below meth c T locs cells slots) (hx : p.tables.exec = Jvm.exec) {i : Nat} {v : Int64} (hd : decode c.code pc = .ok (.lload i, 2)) (hl : Ls[i]? = some (.val (.long v))) (pc' : Nat) (hp : pc + 2 = pc') (k : own_Go p e below G (T.setTop (mkF m pc' Ls (.long v :: rest)))) : own_Go p e below G (T.setTop (mkF m pc Ls (rest))) := by
  subst hp; exact own_go (fun t q => XS.lload X.here hx rfl hd hl q) k
theorem own_istoreN (X : Stand p l e R s m args below meth c T locs cells slots) (hx : p.tables.exec = Jvm.exec) {i : Fin 4} {v : Int32} (hd : decode c.code pc = .ok (.istore_n i, 1)) (l' : Array Slot) (hl : storeLocals Ls i.val (.int v) = some l') (pc' : Nat) (hp : pc + 1 = pc') (k : own_Go p e below G (T.setTop (mkF m pc' l' (rest)))) : own_Go p e below G (T.setTop (mkF m pc Ls (.int v :: rest))) := by
  subst hp; exact own_go (fun t q => XS.istoreN X.here hx rfl hd rfl hl q) k
theorem own_lstoreN (X : Stand p l e R s m args below meth c T locs cells slots) (hx : p.tables.exec = Jvm.exec) {i : Fin 4} {v : Int64} (hd : decode c.code pc = .ok (.lstore_n i, 1)) (l' : Array Slot) (hl : storeLocals Ls i.val (.long v) = some l') (pc' : Nat) (hp : pc + 1 = pc') (k : own_Go p e below G (T.setTop (mkF m pc' l' (rest)))) : own_Go p e below G (T.setTop (mkF m pc Ls (.long v :: rest))) := by
  subst hp; exact own_go (fun t q => XS.lstoreN X.here hx rfl hd rfl hl q) k
theorem own_lstore (X : Stand p l e R s m args below meth c T locs cells slots) (hx : p.tables.exec = Jvm.exec) {i : Nat} {v : Int64} (hd : decode c.code pc = .ok (.lstore i, 2)) (l' : Array Slot) (hl : storeLocals Ls i (.long v) = some l') (pc' : Nat) (hp : pc + 2 = pc') (k : own_Go p e below G (T.setTop (mkF m pc' l' (rest)))) : own_Go p e below G (T.setTop (mkF m pc Ls (.long v :: rest))) := by
  subst hp; exact own_go (fun t q => XS.lstore X.here hx rfl hd rfl hl q) k
theorem own_iconst (X : Stand p l e R s m args below meth c T locs cells slots) (hx : p.tables.exec = Jvm.exec) {i : Int} (hd : decode c.code pc = .ok (.iconst i, 1)) (v : Int32) (hv : v = Int32.ofInt i) (pc' : Nat) (hp : pc + 1 = pc') (k : own_Go p e below G (T.setTop (mkF m pc' Ls (.int v :: rest)))) : own_Go p e below G (T.setTop (mkF m pc Ls (rest))) := by
  subst hp; exact own_go (fun t q => XS.iconst X.here hx rfl hd (hv ▸ q)) k
theorem own_ldcInt (X : Stand p l e R s m args below meth c T locs cells slots) (hx : p.tables.exec = Jvm.exec) {own : String} {index : Nat} {v : Int32} (hown : s.vm.findClass own = some m.cls) (hc : (Cond.constant own index v).before args s = true) (hd : decode c.code pc = .ok (.ldc index, 2)) (pc' : Nat) (hp : pc + 2 = pc') (k : own_Go p e below G (T.setTop (mkF m pc' Ls (.int v :: rest)))) : own_Go p e below G (T.setTop (mkF m pc Ls rest)) := by
  subst hp; exact own_go (X.ldcInt hx hown hc (g := mkF m pc Ls rest) rfl hd) k
theorem own_ldc2Long (X : Stand p l e R s m args below meth c T locs cells slots) (hx : p.tables.exec = Jvm.exec) {own : String} {index : Nat} {v : Int64} (hown : s.vm.findClass own = some m.cls) (hc : (Cond.constantLong own index v).before args s = true) (hd : decode c.code pc = .ok (.ldc2_w index, 3)) (pc' : Nat) (hp : pc + 3 = pc') (k : own_Go p e below G (T.setTop (mkF m pc' Ls (.long v :: rest)))) : own_Go p e below G (T.setTop (mkF m pc Ls rest)) := by
  subst hp; exact own_go (X.ldc2Long hx hown hc (g := mkF m pc Ls rest) rfl hd) k
theorem own_iand (X : Stand p l e R s m args below meth c T locs cells slots) (hx : p.tables.exec = Jvm.exec) {x y : Int32} (hd : decode c.code pc = .ok (.iand, 1)) (pc' : Nat) (hp : pc + 1 = pc') (k : own_Go p e below G (T.setTop (mkF m pc' Ls (.int (x &&& y) :: rest)))) : own_Go p e below G (T.setTop (mkF m pc Ls (.int y :: .int x :: rest))) := by
  subst hp; exact own_go (fun t q => XS.iand X.here hx rfl hd rfl q) k
theorem own_ladd (X : Stand p l e R s m args below meth c T locs cells slots) (hx : p.tables.exec = Jvm.exec) {x y : Int64} (hd : decode c.code pc = .ok (.ladd, 1)) (pc' : Nat) (hp : pc + 1 = pc') (k : own_Go p e below G (T.setTop (mkF m pc' Ls (.long (x + y) :: rest)))) : own_Go p e below G (T.setTop (mkF m pc Ls (.long y :: .long x :: rest))) := by
  subst hp; exact own_go (fun t q => XS.ladd X.here hx rfl hd rfl q) k
theorem own_lmul (X : Stand p l e R s m args below meth c T locs cells slots) (hx : p.tables.exec = Jvm.exec) {x y : Int64} (hd : decode c.code pc = .ok (.lmul, 1)) (pc' : Nat) (hp : pc + 1 = pc') (k : own_Go p e below G (T.setTop (mkF m pc' Ls (.long (x * y) :: rest)))) : own_Go p e below G (T.setTop (mkF m pc Ls (.long y :: .long x :: rest))) := by
  subst hp; exact own_go (fun t q => XS.lmul X.here hx rfl hd rfl q) k
theorem own_i2l (X : Stand p l e R s m args below meth c T locs cells slots) (hx : p.tables.exec = Jvm.exec) {x : Int32} (hd : decode c.code pc = .ok (.i2l, 1)) (pc' : Nat) (hp : pc + 1 = pc') (k : own_Go p e below G (T.setTop (mkF m pc' Ls (.long x.toInt64 :: rest)))) : own_Go p e below G (T.setTop (mkF m pc Ls (.int x :: rest))) := by
  subst hp; exact own_go (fun t q => XS.i2l X.here hx rfl hd rfl q) k
theorem own_goto (X : Stand p l e R s m args below meth c T locs cells slots) (hx : p.tables.exec = Jvm.exec) {o : Int} (hd : decode c.code pc = .ok (.goto o, 3)) (pc' : Nat) (hp : 0 ≤ (pc : Int) + o ∧ ((pc : Int) + o).toNat = pc') (k : own_Go p e below G (T.setTop (mkF m pc' Ls rest))) : own_Go p e below G (T.setTop (mkF m pc Ls rest)) :=
  own_go (fun t q => XS.goto X.here hx rfl (pc0 := pc) (pc' := pc') rfl hd hp.1 hp.2 q) k
theorem own_ifN (X : Stand p l e R s m args below meth c T locs cells slots) (hx : p.tables.exec = Jvm.exec) {o : Int} {cd : ClassFile.Cond} {x : Int32} (hd : decode c.code pc = .ok (.ifCond cd o, 3)) (hc : ifCond.holds cd x = false) (pc' : Nat) (hp : pc + 3 = pc') (k : own_Go p e below G (T.setTop (mkF m pc' Ls (rest)))) : own_Go p e below G (T.setTop (mkF m pc Ls (.int x :: rest))) := by
  subst hp; exact own_go (fun t q => XS.ifNo X.here hx rfl hd rfl hc q) k
theorem own_ret {f : JFrame} {Q : Option Value → Heap → List Loc → Prop} {C S : Nat} (X : Stand p l e R s m args below meth c T locs cells slots) (hlk : meth.locks = false) (hG : own_Post s Q C S = G) {v : Option Value} (hv : meth.sig.returnType = none → v = none)
    (st : ∀ fs, (∀ (f : JFrame) (acts : List Action), f.method = m → f.locked = none → f.entered = [] → (doReturn e (T.setTop f) acts v).1 = T.setFrames fs) → Steps p.tables e below (T.setTop f) (T.setFrames fs)) (hc : cells ≤ C) (hs : slots ≤ S) (hq : Q v T.heap locs) : own_Go p e below G (T.setTop f) := by
  subst hG
  obtain ⟨fs, hr, hrun, hended, hW, hsame⟩ := X.leave (v := v) hv hlk
  exact ⟨_, _, st fs hr, hrun, hended, _, _, rfl, hq, ⟨_, rfl⟩, hW, hsame.mono hc hs⟩
theorem own_nreturn {z : Int32} {ty : FieldType} {Q : Option Value → Heap → List Loc → Prop} {C S : Nat} (X : Stand p l e R s m args below meth c T locs cells slots) (hx : p.tables.exec = Jvm.exec) (hlk : meth.locks = false) (hG : own_Post s Q C S = G) (hret : meth.sig.returnType = some ty) (ht : ty = .boolean ∨ ty = .byte ∨ ty = .char ∨ ty = .short) (hd : decode c.code pc = .ok (.ireturn, 1)) (hc : cells ≤ C) (hs : slots ≤ S) (hq : Q (some (.int (nar ty z))) T.heap locs) : own_Go p e below G (T.setTop (mkF m pc Ls (.int z :: rest))) :=
  own_ret X hlk hG (fun h => by rw [hret] at h; cases h) (fun fs hr => retN X hx hret ht hd hr) hc hs hq
variable {Z : State} {a0 : Array Value} {h : Heap}
theorem own_callS {bytes : ByteArray} {maxL : Nat} {ret : Option FieldType} {rm : Room} {y : MethodName} {argsL : List Value} {Q : Option Value → Heap → List Loc → Prop} (X : Stand p l e R s m args below meth c T locs cells slots) (hx : p.tables.exec = Jvm.exec) (hZ : Z.Warmed39 s.vm) {own : String} {index : Nat} (hown : s.vm.findClass own = some m.cls) (w1 : (Cond.methodLink own index y).before a0 Z = true) (w2 : (Cond.static y).before a0 Z = true) (w3 : (Cond.initialized y.cls).before a0 Z = true) (w4 : (Cond.code y bytes maxL ret).before a0 Z = true) (hy : y.cls ≠ "java/lang/invoke/MethodHandle" ∧ y.cls ≠ "java/lang/invoke/VarHandle") (eT : T.heap = h)
    (hM : MetFree l y (head1 [Cond.code y bytes maxL ret] rm) (fun a U => a = argsL.toArray ∧ Z.Warmed39 U.vm ∧ U.heap = h) (fun _ _ _ _ _ => True) (fun _ U o U' => ∃ v L, o = .returned v ∧ Q v U'.heap L ∧ FrameEnd U o U' L rm.cells rm.slots))
    (hsize : Ls.size = c.maxLocals) {ps : List FieldType} {rt : Option FieldType} (hdesc : parseMethodDescriptor y.desc = some ⟨ps, rt⟩) (hlen : argsL.length = ps.length) {st : List Value} (hst : st = argsL.reverse ++ rest) (hd : decode c.code pc = .ok (.invokestatic index, 3)) (W : Nat) (hW : (rest.map fun v => v.category).sum ≤ W) (hf : rm.frames + 1 ≤ R.frames) (hl : W + (maxL + 11) + rm.locals ≤ R.locals) (hc : cells + rm.cells ≤ R.cells) (hs : slots + rm.slots ≤ R.slots) (pc' : Nat) (hp : pc + 3 = pc')
    (k : ∀ (T' : State) (L : List Loc) (v : Option Value), Stand p l e R s m args below meth c T' (locs ++ L) (cells + rm.cells) (slots + rm.slots) → Q v T'.heap L → own_Go p e below G (T'.setTop (mkF m pc' Ls (v.toList ++ rest)))) : own_Go p e below G (T.setTop (mkF m pc Ls st)) := by
  subst hp hst
  obtain ⟨v, _, ⟨T', L', k', n'⟩, -, X', ⟨Lc, hQ, l', y', z'⟩, st⟩ := Jvm.LawKit.callS X hx hown (mvT hZ w1) (mvT hZ w2) (mvT hZ w3) (mvT hZ w4) hy (backOf (W := W) hM hZ w4 w3 hf hl) (g := mkF m pc Ls (argsL.reverse ++ rest)) rfl hsize (argsL := argsL) (rest := rest) (lenOf hdesc hlen) rfl (by show 2 * 0 + _ ≤ W; rw [Nat.mul_zero, Nat.zero_add]; exact hW) hd (fun _ _ => ⟨rfl, eT, hc, hs⟩)
  dsimp only [Pt.U, Pt.locs, Pt.cells, Pt.slots] at X' l' y' z' st hQ
  subst l' y' z'
  exact own_go st (k T' Lc v X' hQ)
def own_A {α : Type} (ty : FieldType) (f : α → Value) (Z : State) (h : Heap) (a : Addr) (L : List α) : Prop := ∃ cl : Cell, Arr Z h a cl ty ∧ cl.slots = (L.map f).toArray ∧ L.length < 2147483648
section OwnArr
variable {α : Type} {ty : FieldType} {f : α → Value} {h' : Heap} {a b : Addr} {L : List α}
theorem own_A.lt (F : own_A ty f Z h a L) : a < h.size := by obtain ⟨cl, A, -⟩ := F; exact A.lt
theorem own_A.ext (F : own_A ty f Z h a L) (E : Ext h h') : own_A ty f Z h' a L := by obtain ⟨cl, A, r⟩ := F; exact ⟨cl, A.ext E, r⟩
theorem own_A.other {sl : Nat} {v : Value} (F : own_A ty f Z h b L) (W : Wr h h' a sl v) (q : b ≠ a) : own_A ty f Z h' b L := by obtain ⟨cl, A, r⟩ := F; exact ⟨cl, A.other W q, r⟩
theorem own_A.keep {ws : List Addr} (F : own_A ty f Z h a L) (K : Keep h h' ws) (q : a ∉ ws) : own_A ty f Z h' a L := by obtain ⟨cl, A, r⟩ := F; exact ⟨cl, ⟨K.2.1 a cl A.1 q, A.2⟩, r⟩
theorem own_A.len (F : own_A ty f Z h a L) : L.length < 2147483648 := by obtain ⟨cl, A, -, r⟩ := F; exact r
theorem own_A.set {i : Nat} {x : α} (F : own_A ty f Z h a L) (W : Wr h h' a i (f x)) : own_A ty f Z h' a (L.set i x) := by
  obtain ⟨cl, A, r, r'⟩ := F
  refine ⟨_, A.same W, ?_, by simpa using r'⟩
  show cl.slots.setIfInBounds i (f x) = _
  rw [r, List.map_set]; simp
theorem own_idx {j : Int32} {i n : Nat} (hj : j = Int32.ofNat i) (hi : i < n) (hn : n < 2147483648) : ¬ (j < 0 ∨ n ≤ j.toNatClampNeg) ∧ j.toNatClampNeg = i := by
  subst hj
  have q : (Int32.ofNat i).toInt = i := Int32.toInt_ofNat_of_lt (by omega)
  have q2 : (Int32.ofNat i).toNatClampNeg = i := by rw [Int32.toNatClampNeg, q]; rfl
  refine ⟨fun z => z.elim (fun z => ?_) fun z => by omega, q2⟩
  rw [Int32.lt_iff_toInt_lt, q, show (0 : Int32).toInt = 0 from rfl] at z; omega
theorem own_A.new {k : ClassId} {n : Int32} {d : α} (hd : f d = defaultValue ty) (A : Arr Z h a (newA k ty n) ty) (i : Nat) (hn : n = Int32.ofNat i) (hi : i < 2147483648) : own_A ty f Z h a (List.replicate i d) := by
  refine ⟨_, A, ?_, by simpa using hi⟩
  have q := (own_idx hn (Nat.lt_succ_self i) (n := i + 1))
  have q2 : n.toNatClampNeg = i := by
    subst hn
    rw [Int32.toNatClampNeg, Int32.toInt_ofNat_of_lt (by omega)]; rfl
  simp [newA, q2, hd]
end OwnArr
theorem own_dloadN (X : Stand p l e R s m args below meth c T locs cells slots) (hx : p.tables.exec = Jvm.exec) {i : Fin 4} {v : UInt64} (hd : decode c.code pc = .ok (.dload_n i, 1)) (hl : Ls[i.val]? = some (.val (.double v))) (pc' : Nat) (hp : pc + 1 = pc') (k : own_Go p e below G (T.setTop (mkF m pc' Ls (.double v :: rest)))) : own_Go p e below G (T.setTop (mkF m pc Ls (rest))) := by
  subst hp; exact own_go (fun t q => XS.dloadN X.here hx rfl hd hl q) k
theorem own_dload (X : Stand p l e R s m args below meth c T locs cells slots) (hx : p.tables.exec = Jvm.exec) {i : Nat} {v : UInt64} (hd : decode c.code pc = .ok (.dload i, 2)) (hl : Ls[i]? = some (.val (.double v))) (pc' : Nat) (hp : pc + 2 = pc') (k : own_Go p e below G (T.setTop (mkF m pc' Ls (.double v :: rest)))) : own_Go p e below G (T.setTop (mkF m pc Ls (rest))) := by
  subst hp; exact own_go (fun t q => XS.dload X.here hx rfl hd hl q) k
theorem own_dstoreN (X : Stand p l e R s m args below meth c T locs cells slots) (hx : p.tables.exec = Jvm.exec) {i : Fin 4} {v : UInt64} (hd : decode c.code pc = .ok (.dstore_n i, 1)) (l' : Array Slot) (hl : storeLocals Ls i.val (.double v) = some l') (pc' : Nat) (hp : pc + 1 = pc') (k : own_Go p e below G (T.setTop (mkF m pc' l' (rest)))) : own_Go p e below G (T.setTop (mkF m pc Ls (.double v :: rest))) := by
  subst hp; exact own_go (fun t q => XS.dstoreN X.here hx rfl hd rfl hl q) k
theorem own_dstore (X : Stand p l e R s m args below meth c T locs cells slots) (hx : p.tables.exec = Jvm.exec) {i : Nat} {v : UInt64} (hd : decode c.code pc = .ok (.dstore i, 2)) (l' : Array Slot) (hl : storeLocals Ls i (.double v) = some l') (pc' : Nat) (hp : pc + 2 = pc') (k : own_Go p e below G (T.setTop (mkF m pc' l' (rest)))) : own_Go p e below G (T.setTop (mkF m pc Ls (.double v :: rest))) := by
  subst hp; exact own_go (fun t q => XS.dstore X.here hx rfl hd rfl hl q) k
theorem own_i2d (X : Stand p l e R s m args below meth c T locs cells slots) (hx : p.tables.exec = Jvm.exec) {x : Int32} (hd : decode c.code pc = .ok (.i2d, 1)) (v : UInt64) (hv : FP.i2d x = v) (pc' : Nat) (hp : pc + 1 = pc') (k : own_Go p e below G (T.setTop (mkF m pc' Ls (.double v :: rest)))) : own_Go p e below G (T.setTop (mkF m pc Ls (.int x :: rest))) := by
  subst hp; exact own_go (fun t q => XS.i2dS X.here hx rfl hd rfl hv q) k
theorem own_l2d (X : Stand p l e R s m args below meth c T locs cells slots) (hx : p.tables.exec = Jvm.exec) {x : Int64} (hd : decode c.code pc = .ok (.l2d, 1)) (v : UInt64) (hv : FP.l2d x = v) (pc' : Nat) (hp : pc + 1 = pc') (k : own_Go p e below G (T.setTop (mkF m pc' Ls (.double v :: rest)))) : own_Go p e below G (T.setTop (mkF m pc Ls (.long x :: rest))) := by
  subst hp; exact own_go (fun t q => XS.l2dS X.here hx rfl hd rfl hv q) k
theorem own_dadd (X : Stand p l e R s m args below meth c T locs cells slots) (hx : p.tables.exec = Jvm.exec) {x y : UInt64} (hd : decode c.code pc = .ok (.dadd, 1)) (v : UInt64) (hv : FP.dadd x y = v) (hn : Jvm.Free.Fl.NoNaN64 (FP.dadd x y)) (pc' : Nat) (hp : pc + 1 = pc') (k : own_Go p e below G (T.setTop (mkF m pc' Ls (.double v :: rest)))) : own_Go p e below G (T.setTop (mkF m pc Ls (.double y :: .double x :: rest))) := by
  subst hp; exact own_go (fun t q => XS.daddS X.here hx rfl hd rfl hn hv q) k
theorem own_dmul (X : Stand p l e R s m args below meth c T locs cells slots) (hx : p.tables.exec = Jvm.exec) {x y : UInt64} (hd : decode c.code pc = .ok (.dmul, 1)) (v : UInt64) (hv : FP.dmul x y = v) (hn : Jvm.Free.Fl.NoNaN64 (FP.dmul x y)) (pc' : Nat) (hp : pc + 1 = pc') (k : own_Go p e below G (T.setTop (mkF m pc' Ls (.double v :: rest)))) : own_Go p e below G (T.setTop (mkF m pc Ls (.double y :: .double x :: rest))) := by
  subst hp; exact own_go (fun t q => XS.dmulS X.here hx rfl hd rfl hn hv q) k
theorem own_dcmp (X : Stand p l e R s m args below meth c T locs cells slots) (hx : p.tables.exec = Jvm.exec) {o : CmpOp} {x y : UInt64} (hd : decode c.code pc = .ok (.dcmp o, 1)) (v : Int32) (hv : cmpValue (FP.dcmp x y) o = v) (pc' : Nat) (hp : pc + 1 = pc') (k : own_Go p e below G (T.setTop (mkF m pc' Ls (.int v :: rest)))) : own_Go p e below G (T.setTop (mkF m pc Ls (.double y :: .double x :: rest))) := by
  subst hp; exact own_go (fun t q => XS.dcmpS X.here hx rfl hd rfl hv q) k
theorem own_ldc2Double (X : Stand p l e R s m args below meth c T locs cells slots) (hx : p.tables.exec = Jvm.exec) {own : String} {index : Nat} {v : UInt64} (hown : s.vm.findClass own = some m.cls) (hc : (Cond.constantDouble own index v).before args s = true) (hd : decode c.code pc = .ok (.ldc2_w index, 3)) (pc' : Nat) (hp : pc + 3 = pc') (k : own_Go p e below G (T.setTop (mkF m pc' Ls (.double v :: rest)))) : own_Go p e below G (T.setTop (mkF m pc Ls rest)) := by
  subst hp; exact own_go (X.ldc2DoubleC hx hown hc (g := mkF m pc Ls rest) rfl hd) k
theorem own_dreturn {z : UInt64} {Q : Option Value → Heap → List Loc → Prop} {C S : Nat} (X : Stand p l e R s m args below meth c T locs cells slots) (hx : p.tables.exec = Jvm.exec) (hlk : meth.locks = false) (hG : own_Post s Q C S = G) (hret : meth.sig.returnType = some .double) (hd : decode c.code pc = .ok (.dreturn, 1)) (hc : cells ≤ C) (hs : slots ≤ S) (hq : Q (some (.double z)) T.heap locs) : own_Go p e below G (T.setTop (mkF m pc Ls (.double z :: rest))) :=
  own_ret X hlk hG (fun h => by rw [hret] at h; cases h) (fun fs hr => retOut X hx hret rfl (Or.inr (Or.inr (Or.inl ⟨rfl, rfl, _, rfl⟩))) hd hr) hc hs hq
end OwnSteps
theorem own_w {Z : State} {a0 : Array Value} (hw : ∀ d ∈ tables_1, d.before a0 Z = true) (i : Nat) {d : Cond} (h : tables_1[i]? = some d) : d.before a0 Z = true := hw d (List.mem_of_getElem? h)
theorem own_isl {args : Array Value} {first s : State} {o : Option Outcome} {idx : List Nat} {t : Term} (h : (Cond.isLong t).value args first o s idx = some true) : ∃ x, t.eval args first o idx s = some (.long x) := isL_v h
theorem d1_0 : decode prog_23_method_6_code 0 = .ok (.iload_n 0, 1) := by decide +kernel
theorem d1_1 : decode prog_23_method_6_code 1 = .ok (.i2d, 1) := by decide +kernel
theorem d1_2 : decode prog_23_method_6_code 2 = .ok (.ldc2_w 67, 3) := by decide +kernel
theorem d1_5 : decode prog_23_method_6_code 5 = .ok (.dadd, 1) := by decide +kernel
theorem d1_6 : decode prog_23_method_6_code 6 = .ok (.dstore_n 1, 1) := by decide +kernel
theorem d1_7 : decode prog_23_method_6_code 7 = .ok (.ldc2_w 69, 3) := by decide +kernel
theorem d1_10 : decode prog_23_method_6_code 10 = .ok (.dload_n 1, 1) := by decide +kernel
theorem d1_11 : decode prog_23_method_6_code 11 = .ok (.dmul, 1) := by decide +kernel
theorem d1_12 : decode prog_23_method_6_code 12 = .ok (.dload_n 1, 1) := by decide +kernel
theorem d1_13 : decode prog_23_method_6_code 13 = .ok (.dmul, 1) := by decide +kernel
theorem d1_14 : decode prog_23_method_6_code 14 = .ok (.dreturn, 1) := by decide +kernel
abbrev own_y1 : MethodName := ⟨"com/example/loon/loon/ranking/Trec2Model", "roundingBound", "(I)D"⟩
theorem pf_1 : plainFor own_y1 = true := by decide +kernel
theorem pn_0 : plainName "com/example/loon/loon/ranking/Trec2ModelRoundingBoundPinLaw" = true := by first | (simp [plainName, overriddenIn]; done) | decide +kernel
theorem pd_0 : parseMethodDescriptor "(I)D" = some ⟨[.int], some .double⟩ := by decide +kernel
theorem own_and32 (x m : Int32) (k : Nat) (hm : m.toBitVec.toNat = 2 ^ k - 1) (hk : k < 32) : (x &&& m).toInt = ((x.toBitVec.toNat % 2 ^ k : Nat) : Int) := by
  have h : (x &&& m).toBitVec.toNat = x.toBitVec.toNat % 2 ^ k := by
    rw [Int32.toBitVec_and, BitVec.toNat_and, hm, Nat.and_two_pow_sub_one_eq_mod]
  have h2 : x.toBitVec.toNat % 2 ^ k < 2 ^ k := Nat.mod_lt _ (Nat.two_pow_pos k)
  have h3 : 2 ^ k ≤ 2 ^ 31 := Nat.pow_le_pow_right (by decide) (by omega)
  rw [← Int32.toInt_toBitVec, BitVec.toInt_eq_toNat_of_lt (by omega), h]
theorem own_nat (x : Int32) : ∃ n : Nat, n < 2147483648 ∧ (x &&& (2147483647 : Int32)) = Int32.ofNat n := by
  have h := own_and32 x 2147483647 31 (by decide) (by decide)
  refine ⟨x.toBitVec.toNat % 2 ^ 31, by omega, Int32.toInt_inj.mp ?_⟩
  rw [h, Int32.toInt_ofNat_of_lt (by omega)]
theorem own_64 {n : Nat} (hn : n < 2147483648) : (Int32.ofNat n).toInt64 = Int64.ofNat n := by
  apply Int64.toInt_inj.mp
  rw [Int32.toInt_toInt64, Int32.toInt_ofNat_of_lt (by omega), Int64.toInt_ofNat_of_lt (by omega)]
theorem own_t {n : Nat} (hn : n < 2147483648) : ((Int32.ofNat n).toInt64 + (6 : Int64)) = Int64.ofNat (n + 6) := by
  rw [own_64 hn, show (6 : Int64) = Int64.ofNat 6 from rfl, ← Int64.ofNat_add]
theorem own_i2dN {n : Nat} (hn : n < 2147483648) : FP.i2d (Int32.ofNat n) = FP.l2d (Int64.ofNat n) := by
  rw [i2d_w, own_64 hn]
theorem own_d6 : (4618441417868443648 : UInt64) = FP.l2d (Int64.ofNat 6) := by decide +kernel
theorem own_b53N {n : Nat} (h : n < 9007199254740992) : B53 (Int64.ofNat n) := by
  unfold B53; rw [Int64.toInt_ofNat_of_lt (by omega)]; omega
theorem own_daddN {a b : Nat} (ha : a < 9007199254740992) (hb : b < 9007199254740992) : FP.dadd (FP.l2d (Int64.ofNat a)) (FP.l2d (Int64.ofNat b)) = FP.l2d (Int64.ofNat (a + b)) := by
  rw [dadd_w (own_b53N ha) (own_b53N hb), Int64.ofNat_add]
section OwnCore
open Jvm.FP.Core
theorem own_vC : val64 (4391009636686233600 : UInt64) = .fin false 4503599627370496 (-100) := by decide +kernel
theorem own_qmin : b64.qmin = -1074 := by decide
theorem own_qmax : b64.qmax = 971 := by decide
theorem own_tails : b64.tails = 4503599627370496 := by decide
theorem own_pp : b64.p = 53 := by decide
theorem own_fits {s : Bool} {c : Nat} {q : Int} : Jvm.FP.Core.fits b64 (.fin s c q) ↔ (c < 9007199254740992 ∧ -1074 ≤ q ∧ q ≤ 971 ∧ (q = -1074 ∨ 4503599627370496 ≤ c)) := by
  rw [← own_qmin, ← own_qmax, ← own_tails]; exact Iff.rfl
/-- a whole number's datum -/
theorem own_valT {t : Nat} (h0 : 0 < t) (h1 : t < 2147483654) : ∃ (c n : Nat), val64 (l2d (Int64.ofNat t)) = .fin false c (-(n : Int)) ∧ c = t * 2 ^ n ∧ n ≤ 53 ∧ 4503599627370496 ≤ c ∧ c < 9007199254740992 := by
  have e : (Int64.ofNat t).toInt = t := Int64.toInt_ofNat_of_lt (by omega)
  have W := l2d_int (a := Int64.ofNat t) (by rw [e, Int.natAbs_natCast]; omega)
  unfold DInt at W
  rw [e] at W
  have F := val64_fits (l2d (Int64.ofNat t))
  cases hv : val64 (l2d (Int64.ofNat t)) with
  | nan => rw [hv] at W; exact W.elim
  | inf s => rw [hv] at W; exact W.elim
  | fin s c q =>
    rw [hv] at W F
    have es := whole_sign W (by omega)
    rw [decide_eq_false (by omega)] at es
    subst es
    have hm := whole_natAbs W
    rw [Int.natAbs_natCast] at hm
    obtain ⟨f1, f2, f3, f4⟩ := (own_fits (s := false) (c := c) (q := q)).mp F
    have hq : q < 0 := by
      refine Int.lt_of_not_ge fun h => ?_
      have z : (-q).toNat = 0 := by omega
      rw [z, Nat.pow_zero, Nat.mul_one] at hm
      have p1 := Nat.two_pow_pos q.toNat
      have : c * 1 ≤ c * 2 ^ q.toNat := Nat.mul_le_mul_left c p1
      omega
    rw [show q.toNat = 0 by omega, Nat.pow_zero, Nat.mul_one] at hm
    obtain ⟨n, hn⟩ : ∃ n : Nat, (-q).toNat = n := ⟨_, rfl⟩
    rw [hn] at hm
    have hle : n ≤ 53 := by
      refine Nat.le_of_not_lt fun h => ?_
      have p1 : 2 ^ 54 ≤ 2 ^ n := Nat.pow_le_pow_right (by decide) h
      have p2 : 1 * 2 ^ n ≤ t * 2 ^ n := Nat.mul_le_mul_right _ h0
      omega
    refine ⟨c, n, ?_, hm, hle, by omega, f1⟩
    rw [show q = -(n : Int) by omega]
/-- a datum times 2^-48 -/
theorem own_mulC {c : Nat} {q : Int} (h1 : c < 9007199254740992) (h2 : 4503599627370496 ≤ c) (h3 : -500 ≤ q) (h4 : q ≤ 500) : round b64 (exactProduct (.fin false 4503599627370496 (-100)) (.fin false c q)) = .fin false c (q - 48) := by
  show roundRatio b64 false (4503599627370496 * c) 1 (-100 + q) = _
  refine roundRatio_exact good_b64 (c := c) (q := q - 48) (by decide) ((own_fits (s := false) (c := c) (q := q - 48)).mpr ⟨h1, by omega, by omega, Or.inr h2⟩) ?_
  rw [show (-100 + q - (q - 48)).toNat = 0 by omega, show (q - 48 - (-100 + q)).toNat = 52 by omega]
  omega
theorem own_lead {A : Nat} (hA : 0 < A) (hA2 : A < 2 ^ 200) : 0 ≤ leading A 1 ∧ leading A 1 < 201 := by
  obtain ⟨s1, s2⟩ := leading_spec hA (B := 1) (by decide)
  constructor
  · have : Below A 1 (leading A 1 + 1) := s2
    have n : ¬ Below A 1 0 := by unfold Below; simp; omega
    have := lt_of_below n s2
    omega
  · have b : Below A 1 200 := by unfold Below; show A * 2 ^ 0 < 1 * 2 ^ 200; rw [Nat.pow_zero, Nat.mul_one, Nat.one_mul]; exact hA2
    have := lt_of_below s1 b
    omega
theorem own_quant {A : Nat} (hA : 0 < A) (hA2 : A < 2 ^ 200) {e : Int} (h1 : -400 ≤ e) (h2 : e ≤ 200) : quantum b64 A 1 e = leading A 1 + e - 52 := by
  have ⟨a, b⟩ := own_lead hA hA2
  unfold quantum
  rw [own_qmin, own_pp]
  omega
theorem own_shift {A : Nat} (hA : 0 < A) (hA2 : A < 2 ^ 200) {e : Int} (h1 : -300 ≤ e) (h2 : e ≤ 200) : ∃ (c : Nat) (q : Int), roundRatio b64 false A 1 e = .fin false c q ∧ roundRatio b64 false A 1 (e - 48) = .fin false c (q - 48) ∧ c < 9007199254740992 ∧ 4503599627370496 ≤ c ∧ -400 ≤ q ∧ q ≤ 400 := by
  have ⟨l1, l2⟩ := own_lead hA hA2
  have key : ∀ d : Int, -400 ≤ d → d ≤ 200 → ∃ (c : Nat) (k : Int), (0 ≤ k ∧ k ≤ 1) ∧ roundRatio b64 false A 1 d = .fin false c (leading A 1 + d - 52 + k) ∧ c = (if nearest (unitsNum A 0 (leading A 1 - 52)) (unitsDen 1 0 (leading A 1 - 52)) < 9007199254740992 then nearest (unitsNum A 0 (leading A 1 - 52)) (unitsDen 1 0 (leading A 1 - 52)) else 4503599627370496) ∧ k = (if nearest (unitsNum A 0 (leading A 1 - 52)) (unitsDen 1 0 (leading A 1 - 52)) < 9007199254740992 then 0 else 1) := by
    intro d d1 d2
    have u1 : unitsNum A d (leading A 1 + d - 52) = unitsNum A 0 (leading A 1 - 52) := by unfold unitsNum; rw [show (d - (leading A 1 + d - 52)) = (0 - (leading A 1 - 52)) by omega]
    have u2 : unitsDen 1 d (leading A 1 + d - 52) = unitsDen 1 0 (leading A 1 - 52) := by unfold unitsDen; rw [show ((leading A 1 + d - 52) - d) = ((leading A 1 - 52) - 0) by omega]
    unfold roundRatio
    rw [if_neg (by omega), own_quant hA hA2 d1 d2]
    unfold roundAt
    rw [u1, u2]
    generalize nearest (unitsNum A 0 (leading A 1 - 52)) (unitsDen 1 0 (leading A 1 - 52)) = n
    unfold settle bound
    rw [own_qmax, own_tails, own_pp]
    by_cases hn : n < 9007199254740992
    · refine ⟨n, 0, by omega, ?_, by rw [if_pos hn], by rw [if_pos hn]⟩
      rw [if_pos (show n < 2 ^ 53 from hn), if_pos (by omega), Int.add_zero]
    · refine ⟨4503599627370496, 1, by omega, ?_, by rw [if_neg hn], by rw [if_neg hn]⟩
      rw [if_neg (show ¬ n < 2 ^ 53 from hn), if_pos (by omega)]
  obtain ⟨c, k, hk, e1, ec, ek⟩ := key e (by omega) h2
  obtain ⟨c', k', -, e1', ec', ek'⟩ := key (e - 48) (by omega) (by omega)
  have cc : c' = c := ec'.trans ec.symm
  have kk : k' = k := ek'.trans ek.symm
  subst cc kk
  have F := roundRatio_fits good_b64 false A (B := 1) (by decide) e
  rw [e1] at F
  obtain ⟨f1, f2, f3, f4⟩ := (own_fits (s := false) (c := c') (q := leading A 1 + e - 52 + k')).mp F
  clear ec ek ec' ek'
  have f5 : 4503599627370496 ≤ c' := by
    rcases f4 with f4 | f4
    · omega
    · exact f4
  refine ⟨c', leading A 1 + e - 52 + k', e1, ?_, f1, f5, by omega, by omega⟩
  rw [e1', show leading A 1 + (e - 48) - 52 + k' = leading A 1 + e - 52 + k' - 48 by omega]
theorem own_nnv {a : UInt64} {c : Nat} {q : Int} (h : val64 a = .fin false c q) : Jvm.Free.Fl.NoNaN64 a := by
  refine Jvm.Free.Fl.noNaN64_no.mpr ?_
  cases hb : FP.dIsNaN a with
  | false => exact hb
  | true => have := (dIsNaN_iff a).mp hb; rw [h] at this; cases this
theorem own_all {t : Nat} (h0 : 0 < t) (h1 : t < 2147483654) : ∃ (c1 c2 : Nat) (q1 q2 : Int), val64 (dmul 4391009636686233600 (l2d (Int64.ofNat t))) = .fin false c1 q1 ∧ val64 (dmul (dmul 4391009636686233600 (l2d (Int64.ofNat t))) (l2d (Int64.ofNat t))) = .fin false c2 q2 ∧ val64 (dmul (l2d (Int64.ofNat (t * t))) 4391009636686233600) = .fin false c2 q2 := by
  obtain ⟨c, n, ev, ec, hn, hc1, hc2⟩ := own_valT h0 h1
  have hcc : c * c < 2 ^ 200 := Nat.lt_trans (Nat.mul_lt_mul'' hc2 hc2) (by decide)
  have hcp : 0 < c * c := Nat.mul_pos (by omega) (by omega)
  obtain ⟨c', q', r1, r2, g1, g2, g3, g4⟩ := own_shift hcp hcc (e := -(n : Int) + -(n : Int)) (by omega) (by omega)
  have v1 : val64 (dmul 4391009636686233600 (l2d (Int64.ofNat t))) = .fin false c (-(n : Int) - 48) := by
    rw [val64_dmul, own_vC, ev, own_mulC hc2 hc1 (by omega) (by omega)]
  have htt : t * t < 2147483654 * 2147483654 := Nat.mul_lt_mul'' h1 h1
  have vt : val64 (l2d (Int64.ofNat (t * t))) = .fin false c' q' := by
    rw [val64_l2d, Int64.toInt_ofNat_of_lt (by omega)]
    show roundRatio b64 (decide (((t * t : Nat) : Int) < 0)) ((t * t : Nat) : Int).natAbs 1 0 = _
    rw [decide_eq_false (by omega), Int.natAbs_natCast, ← r1]
    refine roundRatio_congr (by decide) (by decide) ?_
    rw [show (0 - (-(n : Int) + -(n : Int))).toNat = n + n by omega, show (-(n : Int) + -(n : Int) - 0).toNat = 0 by omega, ec, Nat.pow_add, Nat.pow_zero]
    simp only [Nat.mul_one]
    generalize 2 ^ n = z
    rw [Nat.mul_mul_mul_comm]
  refine ⟨c, c', _, q' - 48, v1, ?_, ?_⟩
  · rw [val64_dmul, v1, ev]
    show roundRatio b64 false (c * c) 1 (-(n : Int) - 48 + -(n : Int)) = _
    rw [show -(n : Int) - 48 + -(n : Int) = -(n : Int) + -(n : Int) - 48 by omega, r2]
  · rw [val64_dmul, vt, own_vC, exactProduct_comm, own_mulC g1 g2 (by omega) (by omega)]
theorem own_nn1 {t : Nat} (h0 : 0 < t) (h1 : t < 2147483654) : Jvm.Free.Fl.NoNaN64 (FP.dmul 4391009636686233600 (FP.l2d (Int64.ofNat t))) := by
  obtain ⟨c1, c2, q1, q2, v1, v2, v3⟩ := own_all h0 h1
  exact own_nnv v1
theorem own_nn2 {t : Nat} (h0 : 0 < t) (h1 : t < 2147483654) : Jvm.Free.Fl.NoNaN64 (FP.dmul (FP.dmul 4391009636686233600 (FP.l2d (Int64.ofNat t))) (FP.l2d (Int64.ofNat t))) := by
  obtain ⟨c1, c2, q1, q2, v1, v2, v3⟩ := own_all h0 h1
  exact own_nnv v2
theorem own_nn3 {t : Nat} (h0 : 0 < t) (h1 : t < 2147483654) : Jvm.Free.Fl.NoNaN64 (FP.dmul (FP.l2d (Int64.ofNat (t * t))) 4391009636686233600) := by
  obtain ⟨c1, c2, q1, q2, v1, v2, v3⟩ := own_all h0 h1
  exact own_nnv v3
theorem own_scale {t : Nat} (h0 : 0 < t) (h1 : t < 2147483654) : FP.dmul (FP.dmul 4391009636686233600 (FP.l2d (Int64.ofNat t))) (FP.l2d (Int64.ofNat t)) = FP.dmul (FP.l2d (Int64.ofNat (t * t))) 4391009636686233600 := by
  obtain ⟨c1, c2, q1, q2, v1, v2, v3⟩ := own_all h0 h1
  exact val64_inj (fun q => by rw [v2] at q; cases q) (v2.trans v3.symm)
end OwnCore

def Q1 (nn : Nat) (h0 : Heap) (n0 : Nat) (v : Option Value) (h : Heap) (L : List Loc) : Prop := v = some (.double (FP.dmul (FP.dmul (4391009636686233600 : UInt64) (FP.l2d (Int64.ofNat (nn + 6)))) (FP.l2d (Int64.ofNat (nn + 6))))) ∧ Fr n0 L ∧ h = h0
theorem ef_rm1 (m : MethodId) (x0 : Int32) : entryFrame m #[(.int x0)] 3 = mkF m 0 #[.val (.int x0), .unset, .unset] [] := by first | (simp [entryFrame, mkF, argsToLocals, Value.category, maxLocals]; done) | rfl
set_option maxRecDepth 65536 in
set_option maxHeartbeats 40000000 in
theorem rm1 (l : Launch) (Z : State) (a0 : Array Value) (hw : ∀ d ∈ tables_1, d.before a0 Z = true) (ws : List Jvm.Cond) (nn : Nat) (h0 : Heap) (n0 : Nat) (hn : nn < 2147483648) :
    MetFree l own_y1 (head1 (Jvm.Cond.code own_y1 prog_23_method_6_code 3 (some .double) :: ws) ({ frames := 0, cells := 0, slots := 0, locals := 0 } : Room)) (fun aR U => aR = #[(.int (Int32.ofNat nn))] ∧ Z.Warmed39 U.vm ∧ U.heap = h0) (fun _ _ _ _ _ => True) (fun _ U o U' => ∃ v L, o = .returned v ∧ Q1 nn h0 n0 v U'.heap L ∧ FrameEnd U o U' L ({ frames := 0, cells := 0, slots := 0, locals := 0 } : Room).cells ({ frames := 0, cells := 0, slots := 0, locals := 0 } : Room).slots) := by
  refine MetFree.of_bodySF pf_1 hisR ?_
  intro p e s m args below meth c s₁ Bd hml0 hP hK
  obtain ⟨rfl, hZ, hhE⟩ := hP
  have hx := Bd.exec
  have hby := Bd.bytes
  have hml : c.maxLocals = 3 := hml0
  have hown : s.vm.findClass "com/example/loon/loon/ranking/Trec2Model" = some m.cls := findClass_of_methodNamed Bd.named
  have hnm := (name_of_methodNamed Bd.named Bd.method).1
  have X0 : Stand p l e ({ frames := 0, cells := 0, slots := 0, locals := 0 } : Room) s m #[(.int (Int32.ofNat nn))] below meth c s₁ [] 0 0 := Stand.of_body Bd
  have e0 : s₁.heap = h0 := by rw [← hhE, Bd.state]; rfl
  have N0 := Fr.nil n0
  show own_Go p e below (own_Post s (Q1 nn h0 n0) ({ frames := 0, cells := 0, slots := 0, locals := 0 } : Room).cells ({ frames := 0, cells := 0, slots := 0, locals := 0 } : Room).slots) (s₁.setTop (entryFrame m #[(.int (Int32.ofNat nn))] 3))
  rw [ef_rm1]
  generalize hG : own_Post s (Q1 nn h0 n0) ({ frames := 0, cells := 0, slots := 0, locals := 0 } : Room).cells ({ frames := 0, cells := 0, slots := 0, locals := 0 } : Room).slots = G
  refine own_iloadN X0 hx (hb hby d1_0) rfl 1 rfl ?_
  refine own_i2d X0 hx (hb hby d1_1) (FP.l2d (Int64.ofNat nn)) (own_i2dN hn) 2 rfl ?_
  refine own_ldc2Double X0 hx hown (mvT hZ (own_w hw 7 rfl)) (hb hby d1_2) 5 rfl ?_
  rw [show (4618441417868443648 : UInt64) = (FP.l2d (Int64.ofNat 6)) from own_d6]
  refine own_dadd X0 hx (hb hby d1_5) (FP.l2d (Int64.ofNat (nn + 6))) (own_daddN (by omega) (by omega)) (nn_w (own_daddN (by omega) (by omega))) 6 rfl ?_
  refine own_dstoreN X0 hx (hb hby d1_6) #[.val (.int (Int32.ofNat nn)), .val (.double (FP.l2d (Int64.ofNat (nn + 6)))), .second] rfl 7 rfl ?_
  refine own_ldc2Double X0 hx hown (mvT hZ (own_w hw 8 rfl)) (hb hby d1_7) 10 rfl ?_
  refine own_dloadN X0 hx (hb hby d1_10) rfl 11 rfl ?_
  refine own_dmul X0 hx (hb hby d1_11) (FP.dmul (4391009636686233600 : UInt64) (FP.l2d (Int64.ofNat (nn + 6)))) rfl (own_nn1 (t := nn + 6) (by omega) (by omega)) 12 rfl ?_
  refine own_dloadN X0 hx (hb hby d1_12) rfl 13 rfl ?_
  refine own_dmul X0 hx (hb hby d1_13) (FP.dmul (FP.dmul (4391009636686233600 : UInt64) (FP.l2d (Int64.ofNat (nn + 6)))) (FP.l2d (Int64.ofNat (nn + 6)))) rfl (own_nn2 (t := nn + 6) (by omega) (by omega)) 14 rfl ?_
  refine own_dreturn X0 hx Bd.notSynchronized hG Bd.returns (hb hby d1_14) (by decide) (by decide) ?_
  rw [e0]
  exact ⟨rfl, N0, rfl⟩
def Q0 (h0 : Heap) (n0 : Nat) (v : Option Value) (h : Heap) (L : List Loc) : Prop := v = some (.int 1) ∧ Fr n0 L
theorem ef_rm0 (m : MethodId) (x0 : Int32) : entryFrame m #[(.int x0)] maxLocals = mkF m 0 #[.val (.int x0), .unset, .unset, .unset, .unset, .unset, .unset, .unset, .unset, .unset] [] := by first | (simp [entryFrame, mkF, argsToLocals, Value.category, maxLocals]; done) | rfl
set_option maxRecDepth 65536 in
set_option maxHeartbeats 40000000 in
theorem rm0 (l : Launch) (Z : State) (a0 : Array Value) (hw : ∀ d ∈ tables_1, d.before a0 Z = true) (ws : List Jvm.Cond) (v0 : Int32) (h0 : Heap) (n0 : Nat)  :
    MetFree l x (head1 (Jvm.Cond.code x code maxLocals ret :: ws) room_1) (fun aR U => aR = #[(.int v0)] ∧ Z.Warmed39 U.vm ∧ U.heap = h0) (fun _ _ _ _ _ => True) (fun _ U o U' => ∃ v L, o = .returned v ∧ Q0 h0 n0 v U'.heap L ∧ FrameEnd U o U' L room_1.cells room_1.slots) := by
  refine MetFree.of_bodySF (plainFor_of_name pn_0) hisR ?_
  intro p e s m args below meth c s₁ Bd hml0 hP hK
  obtain ⟨rfl, hZ, hhE⟩ := hP
  have hx := Bd.exec
  have hby := Bd.bytes
  have hml : c.maxLocals = 10 := hml0
  have hown : s.vm.findClass "com/example/loon/loon/ranking/Trec2ModelRoundingBoundPinLaw" = some m.cls := findClass_of_methodNamed Bd.named
  have hnm := (name_of_methodNamed Bd.named Bd.method).1
  have X0 : Stand p l e room_1 s m #[(.int v0)] below meth c s₁ [] 0 0 := Stand.of_body Bd
  have e0 : s₁.heap = h0 := by rw [← hhE, Bd.state]; rfl
  have N0 := Fr.nil n0
  show own_Go p e below (own_Post s (Q0 h0 n0) room_1.cells room_1.slots) (s₁.setTop (entryFrame m #[(.int v0)] maxLocals))
  rw [ef_rm0]
  generalize hG : own_Post s (Q0 h0 n0) room_1.cells room_1.slots = G
  refine own_iloadN X0 hx (hb hby at_0) rfl 1 rfl ?_
  refine own_ldcInt X0 hx hown (mvT hZ (own_w hw 0 rfl)) (hb hby at_1) 3 rfl ?_
  refine own_iand X0 hx (hb hby at_3) 4 rfl ?_
  generalize hy1 : (v0 &&& (2147483647 : Int32)) = y1
  refine own_istoreN X0 hx (hb hby at_4) #[.val (.int v0), .val (.int y1), .unset, .unset, .unset, .unset, .unset, .unset, .unset, .unset] rfl 5 rfl ?_
  obtain ⟨nn, hnn, he⟩ := own_nat v0
  obtain rfl : y1 = Int32.ofNat nn := hy1.symm.trans he
  refine own_iloadN X0 hx (hb hby at_5) rfl 6 rfl ?_
  refine own_i2l X0 hx (hb hby at_6) 7 rfl ?_
  refine own_ldc2Long X0 hx hown (mvT hZ (own_w hw 1 rfl)) (hb hby at_7) 10 rfl ?_
  refine own_ladd X0 hx (hb hby at_10) 11 rfl ?_
  generalize hy2 : (((Int32.ofNat nn)).toInt64 + (6 : Int64)) = y2
  refine own_lstoreN X0 hx (hb hby at_11) #[.val (.int v0), .val (.int (Int32.ofNat nn)), .val (.long y2), .second, .unset, .unset, .unset, .unset, .unset, .unset] rfl 12 rfl ?_
  obtain rfl : y2 = Int64.ofNat (nn + 6) := hy2.symm.trans (own_t hnn)
  refine own_lloadN X0 hx (hb hby at_12) rfl 13 rfl ?_
  refine own_lloadN X0 hx (hb hby at_13) rfl 14 rfl ?_
  refine own_lmul X0 hx (hb hby at_14) 15 rfl ?_
  generalize hy3 : ((Int64.ofNat (nn + 6)) * (Int64.ofNat (nn + 6))) = y3
  refine own_lstore X0 hx (hb hby at_15) #[.val (.int v0), .val (.int (Int32.ofNat nn)), .val (.long (Int64.ofNat (nn + 6))), .second, .val (.long y3), .second, .unset, .unset, .unset, .unset] rfl 17 rfl ?_
  obtain rfl : y3 = Int64.ofNat ((nn + 6) * (nn + 6)) := hy3.symm.trans (Int64.ofNat_mul (nn + 6) (nn + 6)).symm
  refine own_lload X0 hx (hb hby at_17) rfl 19 rfl ?_
  refine own_l2d X0 hx (hb hby at_19) (FP.l2d (Int64.ofNat ((nn + 6) * (nn + 6)))) rfl 20 rfl ?_
  refine own_ldc2Double X0 hx hown (mvT hZ (own_w hw 2 rfl)) (hb hby at_20) 23 rfl ?_
  refine own_dmul X0 hx (hb hby at_23) (FP.dmul (FP.l2d (Int64.ofNat ((nn + 6) * (nn + 6)))) (4391009636686233600 : UInt64)) rfl (own_nn3 (t := nn + 6) (by omega) (by omega)) 24 rfl ?_
  refine own_dstore X0 hx (hb hby at_24) #[.val (.int v0), .val (.int (Int32.ofNat nn)), .val (.long (Int64.ofNat (nn + 6))), .second, .val (.long (Int64.ofNat ((nn + 6) * (nn + 6)))), .second, .val (.double (FP.dmul (FP.l2d (Int64.ofNat ((nn + 6) * (nn + 6)))) (4391009636686233600 : UInt64))), .second, .unset, .unset] rfl 26 rfl ?_
  refine own_iloadN X0 hx (hb hby at_26) rfl 27 rfl ?_
  refine own_callS X0 hx hZ hown (own_w hw 3 rfl) (own_w hw 4 rfl) (own_w hw 5 rfl) (own_w hw 6 rfl) (by decide) e0 (rm1 l Z a0 hw [] nn h0 n0 hnn) (by rw [hml]; rfl) pd_0 (argsL := [(.int (Int32.ofNat nn))]) rfl (rest := []) rfl (hb hby at_27) 0 (Nat.le_of_eq rfl) (by decide) (by decide) (by decide) (by decide) 30 rfl (fun T4 L4 v4 X4 hQ4 => ?_)
  obtain ⟨rfl, N4, e4⟩ := hQ4
  have N5 := Fr.app N0 N4
  show own_Go p e below G (T4.setTop (mkF m 30 #[.val (.int v0), .val (.int (Int32.ofNat nn)), .val (.long (Int64.ofNat (nn + 6))), .second, .val (.long (Int64.ofNat ((nn + 6) * (nn + 6)))), .second, .val (.double (FP.dmul (FP.l2d (Int64.ofNat ((nn + 6) * (nn + 6)))) (4391009636686233600 : UInt64))), .second, .unset, .unset] [(.double (FP.dmul (FP.dmul (4391009636686233600 : UInt64) (FP.l2d (Int64.ofNat (nn + 6)))) (FP.l2d (Int64.ofNat (nn + 6)))))]))
  refine own_dstore X4 hx (hb hby at_30) #[.val (.int v0), .val (.int (Int32.ofNat nn)), .val (.long (Int64.ofNat (nn + 6))), .second, .val (.long (Int64.ofNat ((nn + 6) * (nn + 6)))), .second, .val (.double (FP.dmul (FP.l2d (Int64.ofNat ((nn + 6) * (nn + 6)))) (4391009636686233600 : UInt64))), .second, .val (.double (FP.dmul (FP.dmul (4391009636686233600 : UInt64) (FP.l2d (Int64.ofNat (nn + 6)))) (FP.l2d (Int64.ofNat (nn + 6))))), .second] rfl 32 rfl ?_
  refine own_dload X4 hx (hb hby at_32) rfl 34 rfl ?_
  refine own_dload X4 hx (hb hby at_34) rfl 36 rfl ?_
  refine own_dcmp X4 hx (hb hby at_36) (0 : Int32) (dcmpV_eq (own_scale (t := nn + 6) (by omega) (by omega)) (own_nn2 (t := nn + 6) (by omega) (by omega)) _) 37 rfl ?_
  refine own_ifN X4 hx (hb hby at_37) ((if0 _ _).trans (teq (by decide)).2) 40 rfl ?_
  refine own_iconst X4 hx (hb hby at_40) (1 : Int32) rfl 41 rfl ?_
  refine own_goto X4 hx (hb hby at_41) 45 ⟨by decide, by decide⟩ ?_
  refine own_nreturn X4 hx Bd.notSynchronized hG Bd.returns (by simp) (hb hby at_45) (by decide) (by decide) ?_
  rw [e4]
  exact ⟨rfl, N5⟩
set_option maxRecDepth 65536 in
set_option maxHeartbeats 40000000 in
theorem comes_1 {Post : Tables → Env → Array Value → State → Outcome → State → Prop} (hpost : ∀ tb e args s v u, (limb_1_1.after args s (.returned v) u = true ∧ limb_1_2.after args s (.returned v) u = true ∧ True) → FrameEnd s (.returned v) u (Jvm.fieldLocs frame_1_writes args s ++ Jvm.arrayLocs frame_1_arrays args s ++ Jvm.staticLocs frame_1_statics s) 0 0 → Post tb e args s (.returned v) u) :
    ArmFor flags0 classFile x code maxLocals ret World_1 tables_1 room_1 Calls_1 rest_1 Pre_1 Post := by
  intro l hfl _ _ p e ha hc hk s m args below hf hA hF happ hP
  obtain ⟨hcalls, hrest, hpre⟩ := hP
  obtain ⟨-, -, -, hnamed, -, -, -, hat⟩ := (Spec.applies_iff hf).mp happ
  obtain ⟨hg, hn⟩ := and_e (Cond.before_iff.mp (show (Jvm.Cond.and given_1 narrow_1).before args s = true from hpre))
  obtain ⟨hcount, k0⟩ := and_e hg
  have q0 := k0
  obtain ⟨w0, rfl⟩ : ∃ w0 : Value, args = #[w0] := by
    have hs : args.size = 1 := by simpa [Cond.value, given_1] using hcount
    obtain ⟨L⟩ := args
    match L, hs with
    | [w0], _ => exact ⟨w0, rfl⟩
  have hw := fun d (hd : d ∈ tables_1) => atoms_spec (ws := Jvm.Cond.code x code maxLocals ret :: tables_1) hat d (List.mem_cons_of_mem _ hd)
  have hfit : Fit s := fun {y c} hc i hi => by
    obtain ⟨ha, rfl⟩ := Array.getElem?_eq_some_iff.mp hc
    have q := List.all_eq_true.mp ((Array.all_eq_true_iff_forall_mem.mp hF) _ (Array.getElem_mem ha)) i (List.mem_range.mpr hi)
    simpa [Array.getElem?_eq_getElem hi] using q
  obtain ⟨i0, r0⟩ := is_v q0
  obtain rfl : w0 = (.int i0) := Option.some.inj r0
  obtain ⟨n, o, h1, h2, h3, _, L, rfl, ⟨rfl, N⟩, hq⟩ := rm0 l s _ hw tables_1 i0 s.heap s.heap.size p e ha hc hk s m _ below hf ((Spec.applies_iff_loose hf).mp happ).1 ⟨rfl, State.Warmed39.refl s, rfl⟩ trivial
  refine ⟨n, _, h1, h2, h3, hpost _ _ _ _ _ _ ⟨Cond.after_iff.mpr rfl, Cond.after_iff.mpr (eq_i res_at (Term.int_eval (1)) rfl), trivial⟩ ⟨hq.1, hq.2.1, (hq.2.2.sift fun y hy => Or.inr (N y hy)).mono (by decide) (by decide)⟩⟩
theorem main_1_1 : Claimed_1_1 := comes_1 fun _ _ _ _ _ _ h hF => ⟨h.1, hF⟩
theorem main_1_2 : Claimed_1_2 := comes_1 fun _ _ _ _ _ _ h hF => ⟨h.2.1, hF⟩
end Jvm.Pilot.@@N@@
namespace Jvm.Pilot.@@N@@
open Jvm Jvm.ClassFile Sem Op Lib Jvm.Free Jvm.Stand Jvm.Pilot.@@N@@.Jvm.D
/-! MADE BY PROGRAM (witnessworld.py) out of the Statement's table words and the real class files: 9 classes; the members and pool entries that the words name. The judged class is class 1, her method 1. -/
namespace start1
open Jvm.ClassFile
def u (s : String) : CpInfo := .utf8 (stringToUtf16 s)
/-- a pool by its gaps: so many unusable entries, then the entry; so many at the end -/
def gap : Nat → List CpInfo → List CpInfo
  | 0, r => r
  | n + 1, r => .unusable :: gap n r
def poolList (es : List (Nat × CpInfo)) (last : Nat) : List CpInfo := es.foldr (fun e r => gap e.1 (e.2 :: r)) (gap last [])
def pool (es : List (Nat × CpInfo)) (last : Nat) : Array CpInfo := ⟨poolList es last⟩
def fileOf (pool : Array CpInfo) (this : Nat) (attrs : Array Attribute := #[]) (ms : Array MethodInfo := #[]) (fl : Nat := 33) (sup : Nat := 0) (ifs : Array Nat := #[]) (fds : Array FieldInfo := #[]) : ClassFile where
  minorVersion := 0
  majorVersion := 65
  constantPool := pool
  accessFlags := fl
  thisClass := this
  superClass := sup
  interfaces := ifs
  fields := fds
  methods := ms
  attributes := attrs
def plain (name : String) (sup : Option ClassId) : Class where
  name := name
  kind := .ordinary
  loader := none
  accessFlags := 33
  super := sup
  interfaces := #[]
  cf := none
  fields := #[]
  methods := #[]
  instanceTypes := #[]
  staticTypes := #[]
  resolved := #[]
  callSites := []
  init := .initialized
  statics := none
  mirror := none

def pool0 : Array CpInfo := pool [(5, u "<init>"), (0, u "()V"), (1, .class_ 10), (1, u "java/lang/Object")] 113

def k0m0 : Method := { name := "<init>", desc := "()V", sig := { parameters := [], returnType := none }, accessFlags := 1, code := none }
/-- java/lang/Object -/
def k0 : Class := { plain "java/lang/Object" none with
  accessFlags := 33
  interfaces := #[]
  cf := some (fileOf pool0 8 #[] #[{ accessFlags := 1, nameIndex := 5, descriptorIndex := 6, attributes := #[] }] 33 0 #[] #[])
  fields := #[]
  methods := #[k0m0]
  instanceTypes := #[]
  staticTypes := #[]
  resolved := Array.replicate 124 none
  statics := none }

def pool1 : Array CpInfo := pool [(2, .class_ 4), (1, u "java/lang/Object"), (0, u "<init>"), (0, u "()V"), (0, .integer 2147483647), (0, .long 6), (1, .double 4391009636686233600), (1, .methodref 13 14), (0, .class_ 15), (0, .nameAndType 16 17), (0, u "com/example/loon/loon/ranking/Trec2Model"), (0, u "roundingBound"), (0, u "(I)D"), (0, .class_ 19), (0, u "com/example/loon/loon/ranking/Trec2ModelRoundingBoundPinLaw"), (2, u "law"), (0, u "(I)Z")] 3

def k1m0 : Method := { name := "<init>", desc := "()V", sig := { parameters := [], returnType := none }, accessFlags := 2, code := none }
def k1c1 : Code := { maxStack := 4, maxLocals := 10, code := code, exceptionTable := #[], attributes := #[] }
def k1m1 : Method := { name := "law", desc := "(I)Z", sig := { parameters := [.int], returnType := some .boolean }, accessFlags := 9, code := some k1c1 }
/-- com/example/loon/loon/ranking/Trec2ModelRoundingBoundPinLaw -/
def k1 : Class := { plain "com/example/loon/loon/ranking/Trec2ModelRoundingBoundPinLaw" (some 0) with
  accessFlags := 49
  interfaces := #[]
  cf := some (fileOf pool1 18 #[] #[{ accessFlags := 2, nameIndex := 5, descriptorIndex := 6, attributes := #[] }, { accessFlags := 9, nameIndex := 22, descriptorIndex := 23, attributes := #[] }] 49 2 #[] #[])
  fields := #[]
  methods := #[k1m0, k1m1]
  instanceTypes := #[]
  staticTypes := #[]
  resolved := Array.replicate 27 none
  statics := none }

def pool2 : Array CpInfo := pool [(2, .class_ 4), (1, u "java/lang/Object"), (0, u "<init>"), (0, u "()V"), (1, .class_ 10), (1, u "com/example/loon/loon/ranking/Trec2Model"), (3, .class_ 16), (1, u "com/example/loon/loon/ranking/Trec2Model$TermWeights"), (37, u "K_OF_FEW_TERMS"), (0, u "[D"), (3, u "(I)D"), (7, .double 4618441417868443648), (1, .double 4391009636686233600), (27, u "INTERCEPT"), (0, u "D"), (1, u "QUERY_COEFFICIENT"), (0, u "RECORD_COEFFICIENT"), (2, u "INDEX_COEFFICIENT"), (0, u "MATCH_COEFFICIENT"), (0, u "QUERY_LENGTH_OFFSET"), (0, u "RECORD_LENGTH_OFFSET"), (10, u "roundingBound"), (4, .class_ 124), (0, u "com/example/loon/loon/ranking/Trec2Model$ExactStatistics")] 30

def k2m0 : Method := { name := "<init>", desc := "()V", sig := { parameters := [], returnType := none }, accessFlags := 2, code := none }
def k2c1 : Code := { maxStack := 4, maxLocals := 3, code := prog_23_method_6_code, exceptionTable := #[], attributes := #[] }
def k2m1 : Method := { name := "roundingBound", desc := "(I)D", sig := { parameters := [.int], returnType := some .double }, accessFlags := 8, code := some k2c1 }
/-- com/example/loon/loon/ranking/Trec2Model -/
def k2 : Class := { plain "com/example/loon/loon/ranking/Trec2Model" (some 0) with
  accessFlags := 49
  interfaces := #[]
  cf := some (fileOf pool2 8 #[.nestMembers #[123, 14]] #[{ accessFlags := 2, nameIndex := 5, descriptorIndex := 6, attributes := #[] }, { accessFlags := 8, nameIndex := 118, descriptorIndex := 59, attributes := #[] }] 49 2 #[] #[{ accessFlags := 26, nameIndex := 97, descriptorIndex := 98, attributes := #[] }, { accessFlags := 26, nameIndex := 100, descriptorIndex := 98, attributes := #[] }, { accessFlags := 26, nameIndex := 101, descriptorIndex := 98, attributes := #[] }, { accessFlags := 26, nameIndex := 104, descriptorIndex := 98, attributes := #[] }, { accessFlags := 26, nameIndex := 105, descriptorIndex := 98, attributes := #[] }, { accessFlags := 26, nameIndex := 106, descriptorIndex := 98, attributes := #[] }, { accessFlags := 26, nameIndex := 107, descriptorIndex := 98, attributes := #[] }, { accessFlags := 26, nameIndex := 54, descriptorIndex := 55, attributes := #[] }])
  fields := #[{ name := "INTERCEPT", type := .double, accessFlags := 26, slot := 0, constantValue := 0 }, { name := "QUERY_COEFFICIENT", type := .double, accessFlags := 26, slot := 1, constantValue := 0 }, { name := "RECORD_COEFFICIENT", type := .double, accessFlags := 26, slot := 2, constantValue := 0 }, { name := "INDEX_COEFFICIENT", type := .double, accessFlags := 26, slot := 3, constantValue := 0 }, { name := "MATCH_COEFFICIENT", type := .double, accessFlags := 26, slot := 4, constantValue := 0 }, { name := "QUERY_LENGTH_OFFSET", type := .double, accessFlags := 26, slot := 5, constantValue := 0 }, { name := "RECORD_LENGTH_OFFSET", type := .double, accessFlags := 26, slot := 6, constantValue := 0 }, { name := "K_OF_FEW_TERMS", type := (.array .double), accessFlags := 26, slot := 7, constantValue := 0 }]
  methods := #[k2m0, k2m1]
  instanceTypes := #[]
  staticTypes := #[.double, .double, .double, .double, .double, .double, .double, (.array .double)]
  resolved := Array.replicate 155 none
  statics := none }

def pool3 : Array CpInfo := pool [(1, u "java/lang/Cloneable"), (0, .class_ 1), (0, u "java/lang/Object"), (0, .class_ 3)] 3

/-- java/lang/Cloneable -/
def k3 : Class := { plain "java/lang/Cloneable" (some 0) with
  accessFlags := 1537
  interfaces := #[]
  cf := some (fileOf pool3 2 #[] #[] 1537 4 #[] #[])
  fields := #[]
  methods := #[]
  instanceTypes := #[]
  staticTypes := #[]
  resolved := Array.replicate 8 none
  statics := none }

def pool4 : Array CpInfo := pool [(1, u "java/io/Serializable"), (0, .class_ 1), (0, u "java/lang/Object"), (0, .class_ 3)] 3

/-- java/io/Serializable -/
def k4 : Class := { plain "java/io/Serializable" (some 0) with
  accessFlags := 1537
  interfaces := #[]
  cf := some (fileOf pool4 2 #[] #[] 1537 4 #[] #[])
  fields := #[]
  methods := #[]
  instanceTypes := #[]
  staticTypes := #[]
  resolved := Array.replicate 8 none
  statics := none }

/-- the primitive byte -/
def k5 : Class := { plain "byte" none with kind := .primitive 'B', accessFlags := 0x411 }
/-- [B -/
def k6 : Class := { plain "[B" (some 0) with kind := .array 5 .byte, interfaces := #[3, 4], accessFlags := 1041 }

/-- the primitive int -/
def k7 : Class := { plain "int" none with kind := .primitive 'I', accessFlags := 0x411 }
/-- [I -/
def k8 : Class := { plain "[I" (some 0) with kind := .array 7 .int, interfaces := #[3, 4], accessFlags := 1041 }

def heap : Heap := #[]
def classes : Array Class := #[k0, k1, k2, k3, k4, k5, k6, k7, k8]
def interned : List (Array UInt16 × Addr) := []
def slotsUsed : Nat := 0
def theMethod : MethodId := ⟨1, 1⟩
def args0 : Array Value := #[.int 5]
def aboutOver (below : List Frame) : State where
  vm := { classes := classes, interned := interned.toArray }
  heap := heap
  slotsUsed := slotsUsed
  threads := #[{ frames := .invoking theMethod args0 :: below }]
def below0 : List Frame := [.native { method := ⟨0, 0⟩, args := #[] }]
def about1 : State := aboutOver below0
def p0 : Program := .bare "" "" ""
def e0 : Env := launch0.env 0 0 0
theorem w_frames : about1.frames = Frame.invoking theMethod args0 :: below0 := rfl
set_option maxRecDepth 65536 in
theorem w_args : argsFit about1.vm theMethod args0 = true := by decide +kernel
set_option maxRecDepth 65536 in
theorem w_heap : heapFits about1 = true := by decide +kernel
set_option maxRecDepth 65536 in
theorem w_runnable : about1.curStatus? = some .runnable := by decide +kernel
set_option maxRecDepth 65536 in
theorem w_alone : about1.alone = true := by decide +kernel
set_option maxRecDepth 65536 in
theorem w_named : about1.methodNamed? x = some theMethod := by decide +kernel
set_option maxRecDepth 65536 in
theorem w_hears : about1.hears theMethod below0 = true := by decide +kernel
set_option maxRecDepth 65536 in
theorem w_ripe : about1.ripe theMethod args0 below0 = true := by decide +kernel
theorem w_running : about1.status = .running := rfl
set_option maxRecDepth 65536 in
theorem w_room : about1.hasRoom e0.platform room_1 = true :=
  launch0.hasRoom_least _ room_1 (by decide +kernel) (by decide +kernel) (by decide +kernel) (by decide +kernel) (by decide +kernel) (by decide +kernel)
theorem allAtoms_all (ts : List Jvm.Cond) (a : Array Jvm.Value) (st : Jvm.State) : (allAtoms ts).before a st = ts.all (fun c => c.before a st) := by
  induction ts with
  | nil => rfl
  | cons c t ih =>
    show (Jvm.Cond.and c (allAtoms t)).before a st = _
    rw [Jvm.Cond.before_and, ih, List.all_cons]
def words1 : List Jvm.Cond := Jvm.Cond.code x code maxLocals ret :: tables_1
/-- a 'code' word, met by the world's own term for the bytes: nothing is compared byte by byte -/
theorem code_word {y : MethodName} {bytes : ByteArray} {mx : Nat} {rt : Option FieldType} {a : Array Value} {s : State} {m : MethodId} {meth : Method} {c : Code} (h1 : s.methodNamed? y = some m) (h2 : s.vm.method? m = some meth) (h3 : meth.code = some c) (h4 : c.code = bytes)
    (h5 : (c.maxLocals == mx && c.exceptionTable.isEmpty && decide (c.maxStack ≤ mostOperands) && decide (meth.sig.returnType = rt) && !meth.locks && decide (parseMethodDescriptor y.desc = some meth.sig)) = true) : (Jvm.Cond.code y bytes mx rt).before a s = true := by
  simp only [Bool.and_eq_true, beq_iff_eq, Bool.not_eq_true', decide_eq_true_eq] at h5
  obtain ⟨⟨⟨⟨⟨g1, g2⟩, g3⟩, g4⟩, g5⟩, g6⟩ := h5
  simp [Cond.before, Cond.holds, Cond.value, h1, h2, h3, h4, g1, g2, g3, g4, g5, g6]
def isCode : Jvm.Cond → Bool
  | .code _ _ _ _ => true
  | _ => false
theorem all_split {L : List Jvm.Cond} {P : Jvm.Cond → Bool} (h1 : L.all (fun c => isCode c || P c) = true) (h2 : ∀ c ∈ L.filter isCode, P c = true) : L.all P = true := by
  refine List.all_eq_true.mpr fun c hc => ?_
  have h := List.all_eq_true.mp h1 c hc
  rcases Bool.eq_false_or_eq_true (isCode c) with hi | hi
  · exact h2 c (List.mem_filter.mpr ⟨hc, hi⟩)
  · simpa [hi] using h
set_option maxRecDepth 65536 in
theorem w_c0 : (Jvm.Cond.code x code maxLocals ret).before args0 about1 = true := code_word (m := ⟨1, 1⟩) (meth := k1m1) (c := k1c1) (by decide +kernel) rfl rfl rfl (by decide +kernel)
set_option maxRecDepth 65536 in
theorem w_c1 : (Jvm.Cond.code ({ cls := "com/example/loon/loon/ranking/Trec2Model", name := "roundingBound", desc := "(I)D" } : Jvm.MethodName) prog_23_method_6_code (3 : Nat) (Option.some Jvm.ClassFile.FieldType.double)).before args0 about1 = true := code_word (m := ⟨2, 1⟩) (meth := k2m1) (c := k2c1) (by decide +kernel) rfl rfl rfl (by decide +kernel)
def codes1 : List Jvm.Cond := [Jvm.Cond.code x code maxLocals ret, Jvm.Cond.code ({ cls := "com/example/loon/loon/ranking/Trec2Model", name := "roundingBound", desc := "(I)D" } : Jvm.MethodName) prog_23_method_6_code (3 : Nat) (Option.some Jvm.ClassFile.FieldType.double)]
set_option maxRecDepth 65536 in
theorem codes_eq : words1.filter isCode = codes1 := rfl
theorem w_codes : ∀ c ∈ words1.filter isCode, c.before args0 about1 = true := by
  rw [codes_eq]
  intro c hc
  simp only [codes1, List.mem_cons, List.not_mem_nil, or_false] at hc
  rcases hc with rfl | rfl
  · exact w_c0
  · exact w_c1
set_option maxRecDepth 65536 in
theorem w_t1 : words1.all (fun c => isCode c || c.before args0 about1) = true := by decide +kernel
theorem w_tables : (allAtoms (Jvm.Cond.code x code maxLocals ret :: tables_1)).before args0 about1 = true := by
  rw [allAtoms_all]
  show words1.all (fun c => c.before args0 about1) = true
  refine all_split ?_ w_codes
  rw [w_t1]
set_option maxRecDepth 65536 in
theorem w_case : (Jvm.Cond.and given_1 narrow_1).before args0 about1 = true := by decide +kernel
theorem w_applies : (headSpec (Jvm.Cond.code x code maxLocals ret :: tables_1) room_1).applies x e0.platform about1 = true :=
  (Spec.applies_iff w_frames).mpr ⟨w_running, w_runnable, w_alone, w_named, w_hears, w_ripe, w_room, w_tables⟩
theorem atStart : AtStart classFile x code maxLocals ret World_1 tables_1 room_1 Calls_1 rest_1 Pre_1 launch0 p0 e0 about1 theMethod args0 below0 :=
  ⟨lists_1, trivial, launch0.admits_env _ _ _, launch0.least_env, fairChoices_fair.cas, fairChoices_fair.clock, w_frames, w_args, w_heap, w_applies, trivial, trivial, w_case⟩
end start1
theorem witness_1 : WitnessClaimed_1 := ⟨start1.p0, start1.e0, start1.about1, start1.theMethod, start1.args0, start1.below0, start1.atStart⟩
end Jvm.Pilot.@@N@@

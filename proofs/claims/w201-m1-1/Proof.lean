import JvmDerived
import JvmDerived.Pilot.@@N@@Statement
import JvmDerived.Pilot.@@N@@Code
set_option linter.unusedVariables false
set_option linter.unusedSimpArgs false
namespace Jvm.Pilot.@@N@@
open Jvm Jvm.ClassFile Sem Op Lib Jvm.Free Jvm.Stand Jvm.LawKit Jvm.RoadKit Bundle Jvm.Pilot.@@N@@.Jvm.D
def own_Go (p : Program) (e : Env) (below : List Frame) (G : State → Outcome → Prop) (σ : State) : Prop := ∃ U o, Steps p.tables e below σ U ∧ U.status = .running ∧ Ended U below o ∧ G U o
theorem own_go {p : Program} {e : Env} {below : List Frame} {G : State → Outcome → Prop} {σ σ' : State} (h : ∀ t, Steps p.tables e below σ' t → Steps p.tables e below σ t) (k : own_Go p e below G σ') : own_Go p e below G σ := by
  obtain ⟨U, o, h1, h2⟩ := k
  exact ⟨U, o, h _ h1, h2⟩
def own_Post (s : State) (Q : Option Value → Heap → List Loc → Prop) (C S : Nat) (U : State) (o : Outcome) : Prop := ∃ v L, o = .returned v ∧ Q v U.heap L ∧ FrameEnd s o U L C S
theorem own_lrem_eq (x y : Int64) : x - (x / y) * y = x % y := by
  apply Int64.toInt_inj.mp
  have h1 := Int64.le_toInt (x % y)
  have h2 := Int64.toInt_lt (x % y)
  rw [Int64.toInt_sub, Int64.toInt_mul, Int64.toInt_div, Int.bmod_mul_bmod, Int.sub_bmod_bmod, Int.mul_comm (x.toInt.tdiv y.toInt), ← Int.tmod_def, ← Int64.toInt_mod]
  exact Int.bmod_eq_of_le_mul_two (by omega) (by omega)
theorem own_ltL {x y : Int64} (h : x < y) : ifCond.holds .lt (lcmpW x y) = true ∧ ifCond.holds .ge (lcmpW x y) = false := by
  have q := (lw_lt x y).mpr h
  exact ⟨(if0 _ _).trans (tlt q).1, (if0 _ _).trans (tlt q).2.1⟩
theorem own_nltL {x y : Int64} (h : ¬ x < y) : ifCond.holds .lt (lcmpW x y) = false ∧ ifCond.holds .ge (lcmpW x y) = true := by
  have q := fun z => h ((lw_lt x y).mp z)
  exact ⟨(if0 _ _).trans (flt q).1, (if0 _ _).trans (flt q).2.1⟩
theorem own_eqL {x y : Int64} (h : x = y) : ifCond.holds .eq (lcmpW x y) = true ∧ ifCond.holds .ne (lcmpW x y) = false := by
  have q := (lw_eq x y).mpr h
  exact ⟨(if0 _ _).trans (teq q).1, (if0 _ _).trans (teq q).2⟩
section OwnSteps
variable {p : Program} {l : Launch} {e : Env} {R : Room} {s : State} {m : MethodId} {args : Array Value} {below : List Frame} {meth : Method} {c : Code} {T : State} {locs : List Loc} {cells slots : Nat} {G : State → Outcome → Prop} {Ls : Array Slot} {rest : List Value} {pc : Nat}
theorem own_iload (X : Stand p l e R s m args below meth c T locs cells slots) (hx : p.tables.exec = Jvm.exec) {i : Nat} {v : Int32} (hd : decode c.code pc = .ok (.iload i, 2)) (hl : Ls[i]? = some (.val (.int v))) (pc' : Nat) (hp : pc + 2 = pc') (k : own_Go p e below G (T.setTop (mkF m pc' Ls (.int v :: rest)))) : own_Go p e below G (T.setTop (mkF m pc Ls (rest))) := by
  subst hp; exact own_go (fun t q => XS.iload X.here hx rfl hd hl q) k
theorem own_lloadN (X : Stand p l e R s m args below meth c T locs cells slots) (hx : p.tables.exec = Jvm.exec) {i : Fin 4} {v : Int64} (hd : decode c.code pc = .ok (.lload_n i, 1)) (hl : Ls[i.val]? = some (.val (.long v))) (pc' : Nat) (hp : pc + 1 = pc') (k : own_Go p e below G (T.setTop (mkF m pc' Ls (.long v :: rest)))) : own_Go p e below G (T.setTop (mkF m pc Ls (rest))) := by
  subst hp; exact own_go (fun t q => XS.lloadN X.here hx rfl hd hl q) k
theorem own_lload (X : Stand p l e R s m args below meth c T locs cells slots) (hx : p.tables.exec = Jvm.exec) {i : Nat} {v : Int64} (hd : decode c.code pc = .ok (.lload i, 2)) (hl : Ls[i]? = some (.val (.long v))) (pc' : Nat) (hp : pc + 2 = pc') (k : own_Go p e below G (T.setTop (mkF m pc' Ls (.long v :: rest)))) : own_Go p e below G (T.setTop (mkF m pc Ls (rest))) := by
  subst hp; exact own_go (fun t q => XS.lload X.here hx rfl hd hl q) k
theorem own_istore (X : Stand p l e R s m args below meth c T locs cells slots) (hx : p.tables.exec = Jvm.exec) {i : Nat} {v : Int32} (hd : decode c.code pc = .ok (.istore i, 2)) (l' : Array Slot) (hl : storeLocals Ls i (.int v) = some l') (pc' : Nat) (hp : pc + 2 = pc') (k : own_Go p e below G (T.setTop (mkF m pc' l' (rest)))) : own_Go p e below G (T.setTop (mkF m pc Ls (.int v :: rest))) := by
  subst hp; exact own_go (fun t q => XS.istore X.here hx rfl hd rfl hl q) k
theorem own_lstore (X : Stand p l e R s m args below meth c T locs cells slots) (hx : p.tables.exec = Jvm.exec) {i : Nat} {v : Int64} (hd : decode c.code pc = .ok (.lstore i, 2)) (l' : Array Slot) (hl : storeLocals Ls i (.long v) = some l') (pc' : Nat) (hp : pc + 2 = pc') (k : own_Go p e below G (T.setTop (mkF m pc' l' (rest)))) : own_Go p e below G (T.setTop (mkF m pc Ls (.long v :: rest))) := by
  subst hp; exact own_go (fun t q => XS.lstore X.here hx rfl hd rfl hl q) k
theorem own_iconst (X : Stand p l e R s m args below meth c T locs cells slots) (hx : p.tables.exec = Jvm.exec) {i : Int} (hd : decode c.code pc = .ok (.iconst i, 1)) (v : Int32) (hv : v = Int32.ofInt i) (pc' : Nat) (hp : pc + 1 = pc') (k : own_Go p e below G (T.setTop (mkF m pc' Ls (.int v :: rest)))) : own_Go p e below G (T.setTop (mkF m pc Ls (rest))) := by
  subst hp; exact own_go (fun t q => XS.iconst X.here hx rfl hd (hv ▸ q)) k
theorem own_lconst (X : Stand p l e R s m args below meth c T locs cells slots) (hx : p.tables.exec = Jvm.exec) {i : Fin 2} (hd : decode c.code pc = .ok (.lconst i, 1)) (v : Int64) (hv : v = Int64.ofNat i) (pc' : Nat) (hp : pc + 1 = pc') (k : own_Go p e below G (T.setTop (mkF m pc' Ls (.long v :: rest)))) : own_Go p e below G (T.setTop (mkF m pc Ls (rest))) := by
  subst hp; exact own_go (fun t q => XS.lconst X.here hx rfl hd (hv ▸ q)) k
theorem own_ldc2Long (X : Stand p l e R s m args below meth c T locs cells slots) (hx : p.tables.exec = Jvm.exec) {own : String} {index : Nat} {v : Int64} (hown : s.vm.findClass own = some m.cls) (hc : (Cond.constantLong own index v).before args s = true) (hd : decode c.code pc = .ok (.ldc2_w index, 3)) (pc' : Nat) (hp : pc + 3 = pc') (k : own_Go p e below G (T.setTop (mkF m pc' Ls (.long v :: rest)))) : own_Go p e below G (T.setTop (mkF m pc Ls rest)) := by
  subst hp; exact own_go (X.ldc2Long hx hown hc (g := mkF m pc Ls rest) rfl hd) k
theorem own_iand (X : Stand p l e R s m args below meth c T locs cells slots) (hx : p.tables.exec = Jvm.exec) {x y : Int32} (hd : decode c.code pc = .ok (.iand, 1)) (pc' : Nat) (hp : pc + 1 = pc') (k : own_Go p e below G (T.setTop (mkF m pc' Ls (.int (x &&& y) :: rest)))) : own_Go p e below G (T.setTop (mkF m pc Ls (.int y :: .int x :: rest))) := by
  subst hp; exact own_go (fun t q => XS.iand X.here hx rfl hd rfl q) k
theorem own_ladd (X : Stand p l e R s m args below meth c T locs cells slots) (hx : p.tables.exec = Jvm.exec) {x y : Int64} (hd : decode c.code pc = .ok (.ladd, 1)) (pc' : Nat) (hp : pc + 1 = pc') (k : own_Go p e below G (T.setTop (mkF m pc' Ls (.long (x + y) :: rest)))) : own_Go p e below G (T.setTop (mkF m pc Ls (.long y :: .long x :: rest))) := by
  subst hp; exact own_go (fun t q => XS.ladd X.here hx rfl hd rfl q) k
theorem own_lsub (X : Stand p l e R s m args below meth c T locs cells slots) (hx : p.tables.exec = Jvm.exec) {x y : Int64} (hd : decode c.code pc = .ok (.lsub, 1)) (pc' : Nat) (hp : pc + 1 = pc') (k : own_Go p e below G (T.setTop (mkF m pc' Ls (.long (x - y) :: rest)))) : own_Go p e below G (T.setTop (mkF m pc Ls (.long y :: .long x :: rest))) := by
  subst hp; exact own_go (fun t q => XS.lsub X.here hx rfl hd rfl q) k
theorem own_land (X : Stand p l e R s m args below meth c T locs cells slots) (hx : p.tables.exec = Jvm.exec) {x y : Int64} (hd : decode c.code pc = .ok (.land, 1)) (pc' : Nat) (hp : pc + 1 = pc') (k : own_Go p e below G (T.setTop (mkF m pc' Ls (.long (x &&& y) :: rest)))) : own_Go p e below G (T.setTop (mkF m pc Ls (.long y :: .long x :: rest))) := by
  subst hp; exact own_go (fun t q => XS.land X.here hx rfl hd rfl q) k
theorem own_lrem (X : Stand p l e R s m args below meth c T locs cells slots) (hx : p.tables.exec = Jvm.exec) {x y : Int64} (hd : decode c.code pc = .ok (.lrem, 1)) (hy : y ≠ 0) (pc' : Nat) (hp : pc + 1 = pc') (k : own_Go p e below G (T.setTop (mkF m pc' Ls (.long (x % y) :: rest)))) : own_Go p e below G (T.setTop (mkF m pc Ls (.long y :: .long x :: rest))) := by
  subst hp; exact own_go (fun t q => XS.lrem X.here hx rfl hd rfl hy (by rw [own_lrem_eq]; exact q)) k
theorem own_lcmp (X : Stand p l e R s m args below meth c T locs cells slots) (hx : p.tables.exec = Jvm.exec) {x y : Int64} (hd : decode c.code pc = .ok (.lcmp, 1)) (pc' : Nat) (hp : pc + 1 = pc') (k : own_Go p e below G (T.setTop (mkF m pc' Ls (.int (lcmpW x y) :: rest)))) : own_Go p e below G (T.setTop (mkF m pc Ls (.long y :: .long x :: rest))) := by
  subst hp; exact own_go (fun t q => XS.lcmp X.here hx rfl hd rfl q) k
theorem own_goto (X : Stand p l e R s m args below meth c T locs cells slots) (hx : p.tables.exec = Jvm.exec) {o : Int} (hd : decode c.code pc = .ok (.goto o, 3)) (pc' : Nat) (hp : 0 ≤ (pc : Int) + o ∧ ((pc : Int) + o).toNat = pc') (k : own_Go p e below G (T.setTop (mkF m pc' Ls rest))) : own_Go p e below G (T.setTop (mkF m pc Ls rest)) :=
  own_go (fun t q => XS.goto X.here hx rfl (pc0 := pc) (pc' := pc') rfl hd hp.1 hp.2 q) k
theorem own_ifY (X : Stand p l e R s m args below meth c T locs cells slots) (hx : p.tables.exec = Jvm.exec) {o : Int} {cd : ClassFile.Cond} {x : Int32} (hd : decode c.code pc = .ok (.ifCond cd o, 3)) (hc : ifCond.holds cd x = true) (pc' : Nat) (hp : 0 ≤ (pc : Int) + o ∧ ((pc : Int) + o).toNat = pc') (k : own_Go p e below G (T.setTop (mkF m pc' Ls rest))) : own_Go p e below G (T.setTop (mkF m pc Ls (.int x :: rest))) :=
  own_go (fun t q => XS.ifYes X.here hx rfl (pc0 := pc) (pc' := pc') rfl hd rfl hc hp.1 hp.2 q) k
theorem own_ifN (X : Stand p l e R s m args below meth c T locs cells slots) (hx : p.tables.exec = Jvm.exec) {o : Int} {cd : ClassFile.Cond} {x : Int32} (hd : decode c.code pc = .ok (.ifCond cd o, 3)) (hc : ifCond.holds cd x = false) (pc' : Nat) (hp : pc + 3 = pc') (k : own_Go p e below G (T.setTop (mkF m pc' Ls (rest)))) : own_Go p e below G (T.setTop (mkF m pc Ls (.int x :: rest))) := by
  subst hp; exact own_go (fun t q => XS.ifNo X.here hx rfl hd rfl hc q) k
theorem own_icmpY (X : Stand p l e R s m args below meth c T locs cells slots) (hx : p.tables.exec = Jvm.exec) {o : Int} {cd : ClassFile.Cond} {x y : Int32} (hd : decode c.code pc = .ok (.if_icmp cd o, 3)) (hc : if_icmp.holds cd x y = true) (pc' : Nat) (hp : 0 ≤ (pc : Int) + o ∧ ((pc : Int) + o).toNat = pc') (k : own_Go p e below G (T.setTop (mkF m pc' Ls rest))) : own_Go p e below G (T.setTop (mkF m pc Ls (.int y :: .int x :: rest))) :=
  own_go (fun t q => XS.icmpYes X.here hx rfl (pc0 := pc) (pc' := pc') rfl hd rfl hc hp.1 hp.2 q) k
theorem own_icmpN (X : Stand p l e R s m args below meth c T locs cells slots) (hx : p.tables.exec = Jvm.exec) {o : Int} {cd : ClassFile.Cond} {x y : Int32} (hd : decode c.code pc = .ok (.if_icmp cd o, 3)) (hc : if_icmp.holds cd x y = false) (pc' : Nat) (hp : pc + 3 = pc') (k : own_Go p e below G (T.setTop (mkF m pc' Ls (rest)))) : own_Go p e below G (T.setTop (mkF m pc Ls (.int y :: .int x :: rest))) := by
  subst hp; exact own_go (fun t q => XS.icmpNo X.here hx rfl hd rfl hc q) k
theorem own_ret {f : JFrame} {Q : Option Value → Heap → List Loc → Prop} {C S : Nat} (X : Stand p l e R s m args below meth c T locs cells slots) (hlk : meth.locks = false) (hG : own_Post s Q C S = G) {v : Option Value} (hv : meth.sig.returnType = none → v = none)
    (st : ∀ fs, (∀ (f : JFrame) (acts : List Action), f.method = m → f.locked = none → f.entered = [] → (doReturn e (T.setTop f) acts v).1 = T.setFrames fs) → Steps p.tables e below (T.setTop f) (T.setFrames fs)) (hc : cells ≤ C) (hs : slots ≤ S) (hq : Q v T.heap locs) : own_Go p e below G (T.setTop f) := by
  subst hG
  obtain ⟨fs, hr, hrun, hended, hW, hsame⟩ := X.leave (v := v) hv hlk
  exact ⟨_, _, st fs hr, hrun, hended, _, _, rfl, hq, ⟨_, rfl⟩, hW, hsame.mono hc hs⟩
theorem own_nreturn {z : Int32} {ty : FieldType} {Q : Option Value → Heap → List Loc → Prop} {C S : Nat} (X : Stand p l e R s m args below meth c T locs cells slots) (hx : p.tables.exec = Jvm.exec) (hlk : meth.locks = false) (hG : own_Post s Q C S = G) (hret : meth.sig.returnType = some ty) (ht : ty = .boolean ∨ ty = .byte ∨ ty = .char ∨ ty = .short) (hd : decode c.code pc = .ok (.ireturn, 1)) (hc : cells ≤ C) (hs : slots ≤ S) (hq : Q (some (.int (nar ty z))) T.heap locs) : own_Go p e below G (T.setTop (mkF m pc Ls (.int z :: rest))) :=
  own_ret X hlk hG (fun h => by rw [hret] at h; cases h) (fun fs hr => retN X hx hret ht hd hr) hc hs hq
theorem own_lreturn {z : Int64} {Q : Option Value → Heap → List Loc → Prop} {C S : Nat} (X : Stand p l e R s m args below meth c T locs cells slots) (hx : p.tables.exec = Jvm.exec) (hlk : meth.locks = false) (hG : own_Post s Q C S = G) (hret : meth.sig.returnType = some .long) (hd : decode c.code pc = .ok (.lreturn, 1)) (hc : cells ≤ C) (hs : slots ≤ S) (hq : Q (some (.long z)) T.heap locs) : own_Go p e below G (T.setTop (mkF m pc Ls (.long z :: rest))) :=
  own_ret X hlk hG (fun h => by rw [hret] at h; cases h) (fun fs hr => retOut X hx hret rfl (Or.inr (Or.inl ⟨rfl, rfl, _, rfl⟩)) hd hr) hc hs hq
variable {Z : State} {a0 : Array Value} {h : Heap}
theorem own_callS {bytes : ByteArray} {maxL : Nat} {ret : Option FieldType} {rm : Room} {y : MethodName} {argsL : List Value} {Q : Option Value → Heap → List Loc → Prop} (X : Stand p l e R s m args below meth c T locs cells slots) (hx : p.tables.exec = Jvm.exec) (hZ : Z.Warmed39 s.vm) {own : String} {index : Nat} (hown : s.vm.findClass own = some m.cls) (w1 : (Cond.methodLink own index y).before a0 Z = true) (w2 : (Cond.static y).before a0 Z = true) (w3 : (Cond.initialized y.cls).before a0 Z = true) (w4 : (Cond.code y bytes maxL ret).before a0 Z = true) (hy : y.cls ≠ "java/lang/invoke/MethodHandle" ∧ y.cls ≠ "java/lang/invoke/VarHandle") (eT : T.heap = h)
    (hM : MetFree l y (head1 [Cond.code y bytes maxL ret] rm) (fun a U => a = argsL.toArray ∧ Z.Warmed39 U.vm ∧ U.heap = h) (fun _ _ _ _ _ => True) (fun _ U o U' => ∃ v L, o = .returned v ∧ Q v U'.heap L ∧ FrameEnd U o U' L rm.cells rm.slots))
    (hsize : Ls.size = c.maxLocals) {ps : List FieldType} {rt : Option FieldType} (hdesc : parseMethodDescriptor y.desc = some ⟨ps, rt⟩) (hlen : argsL.length = ps.length) {st : List Value} (hst : st = argsL.reverse ++ rest) (hd : decode c.code pc = .ok (.invokestatic index, 3)) (W : Nat) (hW : (rest.map fun v => v.category).sum ≤ W) (hf : rm.frames + 1 ≤ R.frames) (hl : W + (maxL + 11) + rm.locals ≤ R.locals) (hc : cells + rm.cells ≤ R.cells) (hs : slots + rm.slots ≤ R.slots) (pc' : Nat) (hp : pc + 3 = pc')
    (k : ∀ (T' : State) (L : List Loc) (v : Option Value), Stand p l e R s m args below meth c T' (locs ++ L) (cells + rm.cells) (slots + rm.slots) → Q v T'.heap L → own_Go p e below G (T'.setTop (mkF m pc' Ls (v.toList ++ rest)))) : own_Go p e below G (T.setTop (mkF m pc Ls st)) := by
  subst hp hst
  obtain ⟨v, _, ⟨T', L', k', n'⟩, -, X', ⟨Lc, hQ, l', y', z'⟩, st⟩ := Jvm.LawKit.callS X hx hown (mvT hZ w1) (mvT hZ w2) (mvT hZ w3) (mvT hZ w4) hy (backOf (W := W) hM hZ w4 w3 hf hl) (g := mkF m pc Ls (argsL.reverse ++ rest)) rfl hsize (argsL := argsL) (rest := rest) (lenOf hdesc hlen) rfl (by show 2 * 0 + _ ≤ W; rw [Nat.mul_zero, Nat.zero_add]; exact hW) hd (fun _ _ => ⟨rfl, eT, hc, hs⟩)
  dsimp only [Pt.U, Pt.locs, Pt.cells, Pt.slots] at X' l' y' z' st hQ
  subst l' y' z'
  exact own_go st (k T' Lc v X' hQ)
def own_A {α : Type} (ty : FieldType) (f : α → Value) (Z : State) (h : Heap) (a : Addr) (L : List α) : Prop := ∃ cl : Cell, Arr Z h a cl ty ∧ cl.slots = (L.map f).toArray ∧ L.length < 2147483648
section OwnArr
variable {α : Type} {ty : FieldType} {f : α → Value} {h' : Heap} {a b : Addr} {L : List α}
theorem own_A.lt (F : own_A ty f Z h a L) : a < h.size := by obtain ⟨cl, A, -⟩ := F; exact A.lt
theorem own_A.ext (F : own_A ty f Z h a L) (E : Ext h h') : own_A ty f Z h' a L := by obtain ⟨cl, A, r⟩ := F; exact ⟨cl, A.ext E, r⟩
theorem own_A.other {sl : Nat} {v : Value} (F : own_A ty f Z h b L) (W : Wr h h' a sl v) (q : b ≠ a) : own_A ty f Z h' b L := by obtain ⟨cl, A, r⟩ := F; exact ⟨cl, A.other W q, r⟩
theorem own_A.keep {ws : List Addr} (F : own_A ty f Z h a L) (K : Keep h h' ws) (q : a ∉ ws) : own_A ty f Z h' a L := by obtain ⟨cl, A, r⟩ := F; exact ⟨cl, ⟨K.2.1 a cl A.1 q, A.2⟩, r⟩
theorem own_A.len (F : own_A ty f Z h a L) : L.length < 2147483648 := by obtain ⟨cl, A, -, r⟩ := F; exact r
theorem own_A.set {i : Nat} {x : α} (F : own_A ty f Z h a L) (W : Wr h h' a i (f x)) : own_A ty f Z h' a (L.set i x) := by
  obtain ⟨cl, A, r, r'⟩ := F
  refine ⟨_, A.same W, ?_, by simpa using r'⟩
  show cl.slots.setIfInBounds i (f x) = _
  rw [r, List.map_set]; simp
theorem own_idx {j : Int32} {i n : Nat} (hj : j = Int32.ofNat i) (hi : i < n) (hn : n < 2147483648) : ¬ (j < 0 ∨ n ≤ j.toNatClampNeg) ∧ j.toNatClampNeg = i := by
  subst hj
  have q : (Int32.ofNat i).toInt = i := Int32.toInt_ofNat_of_lt (by omega)
  have q2 : (Int32.ofNat i).toNatClampNeg = i := by rw [Int32.toNatClampNeg, q]; rfl
  refine ⟨fun z => z.elim (fun z => ?_) fun z => by omega, q2⟩
  rw [Int32.lt_iff_toInt_lt, q, show (0 : Int32).toInt = 0 from rfl] at z; omega
theorem own_A.new {k : ClassId} {n : Int32} {d : α} (hd : f d = defaultValue ty) (A : Arr Z h a (newA k ty n) ty) (i : Nat) (hn : n = Int32.ofNat i) (hi : i < 2147483648) : own_A ty f Z h a (List.replicate i d) := by
  refine ⟨_, A, ?_, by simpa using hi⟩
  have q := (own_idx hn (Nat.lt_succ_self i) (n := i + 1))
  have q2 : n.toNatClampNeg = i := by
    subst hn
    rw [Int32.toNatClampNeg, Int32.toInt_ofNat_of_lt (by omega)]; rfl
  simp [newA, q2, hd]
end OwnArr
end OwnSteps
theorem own_w {Z : State} {a0 : Array Value} (hw : ∀ d ∈ tables_1, d.before a0 Z = true) (i : Nat) {d : Cond} (h : tables_1[i]? = some d) : d.before a0 Z = true := hw d (List.mem_of_getElem? h)
theorem own_isl {args : Array Value} {first s : State} {o : Option Outcome} {idx : List Nat} {t : Term} (h : (Cond.isLong t).value args first o s idx = some true) : ∃ x, t.eval args first o idx s = some (.long x) := isL_v h
theorem d1_0 : decode prog_73_method_3_code 0 = .ok (.lload_n 0, 1) := by decide +kernel
theorem d1_1 : decode prog_73_method_3_code 1 = .ok (.lload_n 2, 1) := by decide +kernel
theorem d1_2 : decode prog_73_method_3_code 2 = .ok (.ladd, 1) := by decide +kernel
theorem d1_3 : decode prog_73_method_3_code 3 = .ok (.lstore 4, 2) := by decide +kernel
theorem d1_5 : decode prog_73_method_3_code 5 = .ok (.lload 4, 2) := by decide +kernel
theorem d1_7 : decode prog_73_method_3_code 7 = .ok (.ldc2_w 9, 3) := by decide +kernel
theorem d1_10 : decode prog_73_method_3_code 10 = .ok (.lcmp, 1) := by decide +kernel
theorem d1_11 : decode prog_73_method_3_code 11 = .ok (.ifCond .lt 12, 3) := by decide +kernel
theorem d1_14 : decode prog_73_method_3_code 14 = .ok (.lload 4, 2) := by decide +kernel
theorem d1_16 : decode prog_73_method_3_code 16 = .ok (.ldc2_w 9, 3) := by decide +kernel
theorem d1_19 : decode prog_73_method_3_code 19 = .ok (.lsub, 1) := by decide +kernel
theorem d1_20 : decode prog_73_method_3_code 20 = .ok (.goto 5, 3) := by decide +kernel
theorem d1_23 : decode prog_73_method_3_code 23 = .ok (.lload 4, 2) := by decide +kernel
theorem d1_25 : decode prog_73_method_3_code 25 = .ok (.lreturn, 1) := by decide +kernel
abbrev own_y1 : MethodName := ⟨"com/example/tree_distance_search/treedistancesearch/search/Residues", "add", "(JJ)J"⟩
theorem pf_1 : plainFor own_y1 = true := by first | exact plainFor_of_name (by simp [plainName, overriddenIn]; done) | decide +kernel
theorem pn_0 : plainName "com/example/tree_distance_search/treedistancesearch/search/ResiduesAddPinLaw" = true := by first | (simp [plainName, overriddenIn]; done) | decide +kernel
theorem pd_0 : parseMethodDescriptor "(JJ)J" = some ⟨[.long, .long], some .long⟩ := by decide +kernel
theorem own_and64 (x m : Int64) (k : Nat) (hm : m.toBitVec.toNat = 2 ^ k - 1) (hk : k < 64) : (x &&& m).toInt = ((x.toBitVec.toNat % 2 ^ k : Nat) : Int) := by
  have h : (x &&& m).toBitVec.toNat = x.toBitVec.toNat % 2 ^ k := by
    rw [Int64.toBitVec_and, BitVec.toNat_and, hm, Nat.and_two_pow_sub_one_eq_mod]
  have h2 : x.toBitVec.toNat % 2 ^ k < 2 ^ k := Nat.mod_lt _ (Nat.two_pow_pos k)
  have h3 : 2 ^ k ≤ 2 ^ 63 := Nat.pow_le_pow_right (by decide) (by omega)
  rw [← Int64.toInt_toBitVec, BitVec.toInt_eq_toNat_of_lt (by omega), h]
def own_In (x : Int64) : Prop := 0 ≤ x.toInt ∧ x.toInt < 2305843009213693951
theorem own_res (x : Int64) : own_In ((x &&& (9223372036854775807 : Int64)) % (2305843009213693951 : Int64)) := by
  have h := own_and64 x 9223372036854775807 63 (by decide) (by decide)
  unfold own_In
  rw [Int64.toInt_mod, h, show (2305843009213693951 : Int64).toInt = 2305843009213693951 from rfl, Int.tmod_eq_emod_of_nonneg (by omega)]
  omega
theorem own_zp : (2305843009213693951 : Int64).toInt = 2305843009213693951 := rfl
theorem own_in1 {x : Int64} (h : own_In x) : own_In (((2305843009213693951 : Int64) - x) % (2305843009213693951 : Int64)) := by
  unfold own_In at *
  have s1 : ((2305843009213693951 : Int64) - x).toInt = 2305843009213693951 - x.toInt := by
    rw [Int64.toInt_sub, own_zp, Int.bmod_eq_of_le_mul_two (by omega) (by omega)]
  rw [Int64.toInt_mod, s1, own_zp, Int.tmod_eq_emod_of_nonneg (by omega)]
  omega
theorem own_in2 {x : Int64} (h : own_In x) : own_In ((2305843009213693950 : Int64) - x) := by
  unfold own_In at *
  have s1 : ((2305843009213693950 : Int64) - x).toInt = 2305843009213693950 - x.toInt := by
    rw [Int64.toInt_sub, show (2305843009213693950 : Int64).toInt = 2305843009213693950 from rfl, Int.bmod_eq_of_le_mul_two (by omega) (by omega)]
  omega
theorem own_in3 : own_In (2305843009213693950 : Int64) := by unfold own_In; decide
def own_add (a b : Int64) : Int64 := if a + b < 2305843009213693951 then a + b else a + b - 2305843009213693951
theorem own_law {x y : Int64} (h1 : own_In x) (h2 : own_In y) : own_add x y = (x + y) % 2305843009213693951 := by
  unfold own_In at *
  have s1 : (x + y).toInt = x.toInt + y.toInt := by
    rw [Int64.toInt_add, Int.bmod_eq_of_le_mul_two (by omega) (by omega)]
  apply Int64.toInt_inj.mp
  rw [Int64.toInt_mod, s1, own_zp, Int.tmod_eq_emod_of_nonneg (by omega)]
  unfold own_add
  split
  · rename_i q
    rw [Int64.lt_iff_toInt_lt, s1, own_zp] at q
    rw [s1]; omega
  · rename_i q
    rw [Int64.lt_iff_toInt_lt, s1, own_zp] at q
    rw [Int64.toInt_sub, s1, own_zp, Int.bmod_eq_of_le_mul_two (by omega) (by omega)]; omega

def Q1 (a b : Int64) (h0 : Heap) (n0 : Nat) (v : Option Value) (h : Heap) (L : List Loc) : Prop := v = some (.long (own_add a b)) ∧ Fr n0 L ∧ h = h0
theorem ef_rm1 (m : MethodId) (x0 : Int64) (x1 : Int64) : entryFrame m #[(.long x0), (.long x1)] 6 = mkF m 0 #[.val (.long x0), .second, .val (.long x1), .second, .unset, .unset] [] := by first | (simp [entryFrame, mkF, argsToLocals, Value.category, maxLocals]; done) | rfl
set_option maxRecDepth 65536 in
set_option maxHeartbeats 40000000 in
theorem rm1 (l : Launch) (Z : State) (a0 : Array Value) (hw : ∀ d ∈ tables_1, d.before a0 Z = true) (ws : List Jvm.Cond) (a b : Int64) (h0 : Heap) (n0 : Nat)  :
    MetFree l own_y1 (head1 (Jvm.Cond.code own_y1 prog_73_method_3_code 6 (some .long) :: ws) ({ frames := 0, cells := 0, slots := 0, locals := 0 } : Room)) (fun aR U => aR = #[(.long a), (.long b)] ∧ Z.Warmed39 U.vm ∧ U.heap = h0) (fun _ _ _ _ _ => True) (fun _ U o U' => ∃ v L, o = .returned v ∧ Q1 a b h0 n0 v U'.heap L ∧ FrameEnd U o U' L ({ frames := 0, cells := 0, slots := 0, locals := 0 } : Room).cells ({ frames := 0, cells := 0, slots := 0, locals := 0 } : Room).slots) := by
  refine MetFree.of_bodySF pf_1 hisR ?_
  intro p e s m args below meth c s₁ Bd hml0 hP hK
  obtain ⟨rfl, hZ, hhE⟩ := hP
  have hx := Bd.exec
  have hby := Bd.bytes
  have hml : c.maxLocals = 6 := hml0
  have hown : s.vm.findClass "com/example/tree_distance_search/treedistancesearch/search/Residues" = some m.cls := findClass_of_methodNamed Bd.named
  have hnm := (name_of_methodNamed Bd.named Bd.method).1
  have X0 : Stand p l e ({ frames := 0, cells := 0, slots := 0, locals := 0 } : Room) s m #[(.long a), (.long b)] below meth c s₁ [] 0 0 := Stand.of_body Bd
  have e0 : s₁.heap = h0 := by rw [← hhE, Bd.state]; rfl
  have N0 := Fr.nil n0
  show own_Go p e below (own_Post s (Q1 a b h0 n0) ({ frames := 0, cells := 0, slots := 0, locals := 0 } : Room).cells ({ frames := 0, cells := 0, slots := 0, locals := 0 } : Room).slots) (s₁.setTop (entryFrame m #[(.long a), (.long b)] 6))
  rw [ef_rm1]
  generalize hG : own_Post s (Q1 a b h0 n0) ({ frames := 0, cells := 0, slots := 0, locals := 0 } : Room).cells ({ frames := 0, cells := 0, slots := 0, locals := 0 } : Room).slots = G
  refine own_lloadN X0 hx (hb hby d1_0) rfl 1 rfl ?_
  refine own_lloadN X0 hx (hb hby d1_1) rfl 2 rfl ?_
  refine own_ladd X0 hx (hb hby d1_2) 3 rfl ?_
  refine own_lstore X0 hx (hb hby d1_3) #[.val (.long a), .second, .val (.long b), .second, .val (.long (a + b)), .second] rfl 5 rfl ?_
  refine own_lload X0 hx (hb hby d1_5) rfl 7 rfl ?_
  refine own_ldc2Long X0 hx hown (mvT hZ (own_w hw 6 rfl)) (hb hby d1_7) 10 rfl ?_
  refine own_lcmp X0 hx (hb hby d1_10) 11 rfl ?_
  by_cases c1 : (a + b) < (2305843009213693951 : Int64)
  ·
    refine own_ifY X0 hx (hb hby d1_11) (own_ltL c1).1 23 ⟨by decide, by decide⟩ ?_
    refine own_lload X0 hx (hb hby d1_23) rfl 25 rfl ?_
    refine own_lreturn X0 hx Bd.notSynchronized hG Bd.returns (hb hby d1_25) (by decide) (by decide) ?_
    rw [e0]
    exact ⟨by first | (unfold own_add; (try simp only [↓reduceIte, c1]) <;> rfl) | (simp [own_add, c1, nar]; done) | (simp [own_add, c1] <;> rfl), N0, rfl⟩
  ·
    refine own_ifN X0 hx (hb hby d1_11) (own_nltL c1).1 14 rfl ?_
    refine own_lload X0 hx (hb hby d1_14) rfl 16 rfl ?_
    refine own_ldc2Long X0 hx hown (mvT hZ (own_w hw 6 rfl)) (hb hby d1_16) 19 rfl ?_
    refine own_lsub X0 hx (hb hby d1_19) 20 rfl ?_
    refine own_goto X0 hx (hb hby d1_20) 25 ⟨by decide, by decide⟩ ?_
    refine own_lreturn X0 hx Bd.notSynchronized hG Bd.returns (hb hby d1_25) (by decide) (by decide) ?_
    rw [e0]
    exact ⟨by first | (unfold own_add; (try simp only [↓reduceIte, c1]) <;> rfl) | (simp [own_add, c1, nar]; done) | (simp [own_add, c1] <;> rfl), N0, rfl⟩
def Q0 (h0 : Heap) (n0 : Nat) (v : Option Value) (h : Heap) (L : List Loc) : Prop := v = some (.int 1) ∧ Fr n0 L
theorem ef_rm0 (m : MethodId) (x0 : Int64) (x1 : Int64) (x2 : Int32) : entryFrame m #[(.long x0), (.long x1), (.int x2)] maxLocals = mkF m 0 #[.val (.long x0), .second, .val (.long x1), .second, .val (.int x2), .unset, .unset, .unset, .unset, .unset, .unset, .unset, .unset, .unset, .unset, .unset] [] := by first | (simp [entryFrame, mkF, argsToLocals, Value.category, maxLocals]; done) | rfl
set_option maxRecDepth 65536 in
set_option maxHeartbeats 40000000 in
theorem rm0 (l : Launch) (Z : State) (a0 : Array Value) (hw : ∀ d ∈ tables_1, d.before a0 Z = true) (ws : List Jvm.Cond) (v0 v1 : Int64) (v2 : Int32) (h0 : Heap) (n0 : Nat)  :
    MetFree l x (head1 (Jvm.Cond.code x code maxLocals ret :: ws) room_1) (fun aR U => aR = #[(.long v0), (.long v1), (.int v2)] ∧ Z.Warmed39 U.vm ∧ U.heap = h0) (fun _ _ _ _ _ => True) (fun _ U o U' => ∃ v L, o = .returned v ∧ Q0 h0 n0 v U'.heap L ∧ FrameEnd U o U' L room_1.cells room_1.slots) := by
  refine MetFree.of_bodySF (plainFor_of_name pn_0) hisR ?_
  intro p e s m args below meth c s₁ Bd hml0 hP hK
  obtain ⟨rfl, hZ, hhE⟩ := hP
  have hx := Bd.exec
  have hby := Bd.bytes
  have hml : c.maxLocals = 16 := hml0
  have hown : s.vm.findClass "com/example/tree_distance_search/treedistancesearch/search/ResiduesAddPinLaw" = some m.cls := findClass_of_methodNamed Bd.named
  have hnm := (name_of_methodNamed Bd.named Bd.method).1
  have X0 : Stand p l e room_1 s m #[(.long v0), (.long v1), (.int v2)] below meth c s₁ [] 0 0 := Stand.of_body Bd
  have e0 : s₁.heap = h0 := by rw [← hhE, Bd.state]; rfl
  have N0 := Fr.nil n0
  show own_Go p e below (own_Post s (Q0 h0 n0) room_1.cells room_1.slots) (s₁.setTop (entryFrame m #[(.long v0), (.long v1), (.int v2)] maxLocals))
  rw [ef_rm0]
  generalize hG : own_Post s (Q0 h0 n0) room_1.cells room_1.slots = G
  refine own_ldc2Long X0 hx hown (mvT hZ (own_w hw 0 rfl)) (hb hby at_0) 3 rfl ?_
  refine own_lstore X0 hx (hb hby at_3) #[.val (.long v0), .second, .val (.long v1), .second, .val (.int v2), .val (.long (2305843009213693951 : Int64)), .second, .unset, .unset, .unset, .unset, .unset, .unset, .unset, .unset, .unset] rfl 5 rfl ?_
  refine own_lloadN X0 hx (hb hby at_5) rfl 6 rfl ?_
  refine own_ldc2Long X0 hx hown (mvT hZ (own_w hw 1 rfl)) (hb hby at_6) 9 rfl ?_
  refine own_land X0 hx (hb hby at_9) 10 rfl ?_
  refine own_lload X0 hx (hb hby at_10) rfl 12 rfl ?_
  refine own_lrem X0 hx (hb hby at_12) (by decide) 13 rfl ?_
  generalize hy2 : ((v0 &&& (9223372036854775807 : Int64)) % (2305843009213693951 : Int64)) = y2
  refine own_lstore X0 hx (hb hby at_13) #[.val (.long v0), .second, .val (.long v1), .second, .val (.int v2), .val (.long (2305843009213693951 : Int64)), .second, .val (.long y2), .second, .unset, .unset, .unset, .unset, .unset, .unset, .unset] rfl 15 rfl ?_
  refine own_lloadN X0 hx (hb hby at_15) rfl 16 rfl ?_
  refine own_ldc2Long X0 hx hown (mvT hZ (own_w hw 1 rfl)) (hb hby at_16) 19 rfl ?_
  refine own_land X0 hx (hb hby at_19) 20 rfl ?_
  refine own_lload X0 hx (hb hby at_20) rfl 22 rfl ?_
  refine own_lrem X0 hx (hb hby at_22) (by decide) 23 rfl ?_
  generalize hy3 : ((v1 &&& (9223372036854775807 : Int64)) % (2305843009213693951 : Int64)) = y3
  refine own_lstore X0 hx (hb hby at_23) #[.val (.long v0), .second, .val (.long v1), .second, .val (.int v2), .val (.long (2305843009213693951 : Int64)), .second, .val (.long y2), .second, .val (.long y3), .second, .unset, .unset, .unset, .unset, .unset] rfl 25 rfl ?_
  refine own_iload X0 hx (hb hby at_25) rfl 27 rfl ?_
  refine own_iconst X0 hx (hb hby at_27) (3 : Int32) rfl 28 rfl ?_
  refine own_iand X0 hx (hb hby at_28) 29 rfl ?_
  generalize hy4 : (v2 &&& (3 : Int32)) = y4
  refine own_istore X0 hx (hb hby at_29) #[.val (.long v0), .second, .val (.long v1), .second, .val (.int v2), .val (.long (2305843009213693951 : Int64)), .second, .val (.long y2), .second, .val (.long y3), .second, .val (.int y4), .unset, .unset, .unset, .unset] rfl 31 rfl ?_
  refine own_iload X0 hx (hb hby at_31) rfl 33 rfl ?_
  refine own_iconst X0 hx (hb hby at_33) (1 : Int32) rfl 34 rfl ?_
  have hx1 : own_In y2 := hy2 ▸ own_res v0
  by_cases c5 : y4 = (1 : Int32)
  ·
    refine own_icmpN X0 hx (hb hby at_34) (teq c5).2 37 rfl ?_
    refine own_lload X0 hx (hb hby at_37) rfl 39 rfl ?_
    refine own_lload X0 hx (hb hby at_39) rfl 41 rfl ?_
    refine own_lsub X0 hx (hb hby at_41) 42 rfl ?_
    refine own_lload X0 hx (hb hby at_42) rfl 44 rfl ?_
    refine own_lrem X0 hx (hb hby at_44) (by decide) 45 rfl ?_
    generalize hy6 : (((2305843009213693951 : Int64) - y2) % (2305843009213693951 : Int64)) = y6
    refine own_lstore X0 hx (hb hby at_45) #[.val (.long v0), .second, .val (.long v1), .second, .val (.int v2), .val (.long (2305843009213693951 : Int64)), .second, .val (.long y2), .second, .val (.long y6), .second, .val (.int y4), .unset, .unset, .unset, .unset] rfl 47 rfl ?_
    refine own_goto X0 hx (hb hby at_47) 80 ⟨by decide, by decide⟩ ?_
    refine own_lload X0 hx (hb hby at_80) rfl 82 rfl ?_
    refine own_lload X0 hx (hb hby at_82) rfl 84 rfl ?_
    have hy1 : own_In y6 := hy6 ▸ own_in1 hx1
    refine own_callS X0 hx hZ hown (own_w hw 2 rfl) (own_w hw 3 rfl) (own_w hw 4 rfl) (own_w hw 5 rfl) (by decide) e0 (rm1 l Z a0 hw [] y2 y6 h0 n0) (by rw [hml]; rfl) pd_0 (argsL := [(.long y2), (.long y6)]) rfl (rest := []) rfl (hb hby at_84) 0 (Nat.le_of_eq rfl) (by decide) (by decide) (by decide) (by decide) 87 rfl (fun T7 L7 v7 X7 hQ7 => ?_)
    obtain ⟨rfl, N7, e7⟩ := hQ7
    have N8 := Fr.app N0 N7
    show own_Go p e below G (T7.setTop (mkF m 87 #[.val (.long v0), .second, .val (.long v1), .second, .val (.int v2), .val (.long (2305843009213693951 : Int64)), .second, .val (.long y2), .second, .val (.long y6), .second, .val (.int y4), .unset, .unset, .unset, .unset] [(.long (own_add y2 y6))]))
    generalize hy9 : (own_add y2 y6) = y9
    refine own_lstore X7 hx (hb hby at_87) #[.val (.long v0), .second, .val (.long v1), .second, .val (.int v2), .val (.long (2305843009213693951 : Int64)), .second, .val (.long y2), .second, .val (.long y6), .second, .val (.int y4), .val (.long y9), .second, .unset, .unset] rfl 89 rfl ?_
    refine own_lload X7 hx (hb hby at_89) rfl 91 rfl ?_
    refine own_lload X7 hx (hb hby at_91) rfl 93 rfl ?_
    refine own_ladd X7 hx (hb hby at_93) 94 rfl ?_
    refine own_lload X7 hx (hb hby at_94) rfl 96 rfl ?_
    refine own_lrem X7 hx (hb hby at_96) (by decide) 97 rfl ?_
    generalize hy10 : ((y2 + y6) % (2305843009213693951 : Int64)) = y10
    refine own_lstore X7 hx (hb hby at_97) #[.val (.long v0), .second, .val (.long v1), .second, .val (.int v2), .val (.long (2305843009213693951 : Int64)), .second, .val (.long y2), .second, .val (.long y6), .second, .val (.int y4), .val (.long y9), .second, .val (.long y10), .second] rfl 99 rfl ?_
    refine own_lload X7 hx (hb hby at_99) rfl 101 rfl ?_
    refine own_lload X7 hx (hb hby at_101) rfl 103 rfl ?_
    refine own_lcmp X7 hx (hb hby at_103) 104 rfl ?_
    refine own_ifN X7 hx (hb hby at_104) (own_eqL (by rw [← hy9, ← hy10]; exact own_law hx1 hy1)).2 107 rfl ?_
    refine own_iconst X7 hx (hb hby at_107) (1 : Int32) rfl 108 rfl ?_
    refine own_goto X7 hx (hb hby at_108) 112 ⟨by decide, by decide⟩ ?_
    refine own_nreturn X7 hx Bd.notSynchronized hG Bd.returns (by simp) (hb hby at_112) (by decide) (by decide) ?_
    rw [e7]
    exact ⟨rfl, N8⟩
  ·
    refine own_icmpY X0 hx (hb hby at_34) (feq c5).2 50 ⟨by decide, by decide⟩ ?_
    refine own_iload X0 hx (hb hby at_50) rfl 52 rfl ?_
    refine own_iconst X0 hx (hb hby at_52) (2 : Int32) rfl 53 rfl ?_
    by_cases c11 : y4 = (2 : Int32)
    ·
      refine own_icmpN X0 hx (hb hby at_53) (teq c11).2 56 rfl ?_
      refine own_lload X0 hx (hb hby at_56) rfl 58 rfl ?_
      refine own_lconst X0 hx (hb hby at_58) (1 : Int64) rfl 59 rfl ?_
      refine own_lsub X0 hx (hb hby at_59) 60 rfl ?_
      show own_Go p e below G (s₁.setTop (mkF m 60 #[.val (.long v0), .second, .val (.long v1), .second, .val (.int v2), .val (.long (2305843009213693951 : Int64)), .second, .val (.long y2), .second, .val (.long y3), .second, .val (.int y4), .unset, .unset, .unset, .unset] [(.long (2305843009213693950 : Int64))]))
      refine own_lload X0 hx (hb hby at_60) rfl 62 rfl ?_
      refine own_lsub X0 hx (hb hby at_62) 63 rfl ?_
      generalize hy12 : ((2305843009213693950 : Int64) - y2) = y12
      refine own_lstore X0 hx (hb hby at_63) #[.val (.long v0), .second, .val (.long v1), .second, .val (.int v2), .val (.long (2305843009213693951 : Int64)), .second, .val (.long y2), .second, .val (.long y12), .second, .val (.int y4), .unset, .unset, .unset, .unset] rfl 65 rfl ?_
      refine own_goto X0 hx (hb hby at_65) 80 ⟨by decide, by decide⟩ ?_
      refine own_lload X0 hx (hb hby at_80) rfl 82 rfl ?_
      refine own_lload X0 hx (hb hby at_82) rfl 84 rfl ?_
      have hy1 : own_In y12 := hy12 ▸ own_in2 hx1
      refine own_callS X0 hx hZ hown (own_w hw 2 rfl) (own_w hw 3 rfl) (own_w hw 4 rfl) (own_w hw 5 rfl) (by decide) e0 (rm1 l Z a0 hw [] y2 y12 h0 n0) (by rw [hml]; rfl) pd_0 (argsL := [(.long y2), (.long y12)]) rfl (rest := []) rfl (hb hby at_84) 0 (Nat.le_of_eq rfl) (by decide) (by decide) (by decide) (by decide) 87 rfl (fun T13 L13 v13 X13 hQ13 => ?_)
      obtain ⟨rfl, N13, e13⟩ := hQ13
      have N14 := Fr.app N0 N13
      show own_Go p e below G (T13.setTop (mkF m 87 #[.val (.long v0), .second, .val (.long v1), .second, .val (.int v2), .val (.long (2305843009213693951 : Int64)), .second, .val (.long y2), .second, .val (.long y12), .second, .val (.int y4), .unset, .unset, .unset, .unset] [(.long (own_add y2 y12))]))
      generalize hy15 : (own_add y2 y12) = y15
      refine own_lstore X13 hx (hb hby at_87) #[.val (.long v0), .second, .val (.long v1), .second, .val (.int v2), .val (.long (2305843009213693951 : Int64)), .second, .val (.long y2), .second, .val (.long y12), .second, .val (.int y4), .val (.long y15), .second, .unset, .unset] rfl 89 rfl ?_
      refine own_lload X13 hx (hb hby at_89) rfl 91 rfl ?_
      refine own_lload X13 hx (hb hby at_91) rfl 93 rfl ?_
      refine own_ladd X13 hx (hb hby at_93) 94 rfl ?_
      refine own_lload X13 hx (hb hby at_94) rfl 96 rfl ?_
      refine own_lrem X13 hx (hb hby at_96) (by decide) 97 rfl ?_
      generalize hy16 : ((y2 + y12) % (2305843009213693951 : Int64)) = y16
      refine own_lstore X13 hx (hb hby at_97) #[.val (.long v0), .second, .val (.long v1), .second, .val (.int v2), .val (.long (2305843009213693951 : Int64)), .second, .val (.long y2), .second, .val (.long y12), .second, .val (.int y4), .val (.long y15), .second, .val (.long y16), .second] rfl 99 rfl ?_
      refine own_lload X13 hx (hb hby at_99) rfl 101 rfl ?_
      refine own_lload X13 hx (hb hby at_101) rfl 103 rfl ?_
      refine own_lcmp X13 hx (hb hby at_103) 104 rfl ?_
      refine own_ifN X13 hx (hb hby at_104) (own_eqL (by rw [← hy15, ← hy16]; exact own_law hx1 hy1)).2 107 rfl ?_
      refine own_iconst X13 hx (hb hby at_107) (1 : Int32) rfl 108 rfl ?_
      refine own_goto X13 hx (hb hby at_108) 112 ⟨by decide, by decide⟩ ?_
      refine own_nreturn X13 hx Bd.notSynchronized hG Bd.returns (by simp) (hb hby at_112) (by decide) (by decide) ?_
      rw [e13]
      exact ⟨rfl, N14⟩
    ·
      refine own_icmpY X0 hx (hb hby at_53) (feq c11).2 68 ⟨by decide, by decide⟩ ?_
      refine own_iload X0 hx (hb hby at_68) rfl 70 rfl ?_
      refine own_iconst X0 hx (hb hby at_70) (3 : Int32) rfl 71 rfl ?_
      by_cases c17 : y4 = (3 : Int32)
      ·
        refine own_icmpN X0 hx (hb hby at_71) (teq c17).2 74 rfl ?_
        refine own_lload X0 hx (hb hby at_74) rfl 76 rfl ?_
        refine own_lconst X0 hx (hb hby at_76) (1 : Int64) rfl 77 rfl ?_
        refine own_lsub X0 hx (hb hby at_77) 78 rfl ?_
        show own_Go p e below G (s₁.setTop (mkF m 78 #[.val (.long v0), .second, .val (.long v1), .second, .val (.int v2), .val (.long (2305843009213693951 : Int64)), .second, .val (.long y2), .second, .val (.long y3), .second, .val (.int y4), .unset, .unset, .unset, .unset] [(.long (2305843009213693950 : Int64))]))
        refine own_lstore X0 hx (hb hby at_78) #[.val (.long v0), .second, .val (.long v1), .second, .val (.int v2), .val (.long (2305843009213693951 : Int64)), .second, .val (.long y2), .second, .val (.long (2305843009213693950 : Int64)), .second, .val (.int y4), .unset, .unset, .unset, .unset] rfl 80 rfl ?_
        refine own_lload X0 hx (hb hby at_80) rfl 82 rfl ?_
        refine own_lload X0 hx (hb hby at_82) rfl 84 rfl ?_
        have hy1 : own_In (2305843009213693950 : Int64) := own_in3
        refine own_callS X0 hx hZ hown (own_w hw 2 rfl) (own_w hw 3 rfl) (own_w hw 4 rfl) (own_w hw 5 rfl) (by decide) e0 (rm1 l Z a0 hw [] y2 (2305843009213693950 : Int64) h0 n0) (by rw [hml]; rfl) pd_0 (argsL := [(.long y2), (.long (2305843009213693950 : Int64))]) rfl (rest := []) rfl (hb hby at_84) 0 (Nat.le_of_eq rfl) (by decide) (by decide) (by decide) (by decide) 87 rfl (fun T18 L18 v18 X18 hQ18 => ?_)
        obtain ⟨rfl, N18, e18⟩ := hQ18
        have N19 := Fr.app N0 N18
        show own_Go p e below G (T18.setTop (mkF m 87 #[.val (.long v0), .second, .val (.long v1), .second, .val (.int v2), .val (.long (2305843009213693951 : Int64)), .second, .val (.long y2), .second, .val (.long (2305843009213693950 : Int64)), .second, .val (.int y4), .unset, .unset, .unset, .unset] [(.long (own_add y2 (2305843009213693950 : Int64)))]))
        generalize hy20 : (own_add y2 (2305843009213693950 : Int64)) = y20
        refine own_lstore X18 hx (hb hby at_87) #[.val (.long v0), .second, .val (.long v1), .second, .val (.int v2), .val (.long (2305843009213693951 : Int64)), .second, .val (.long y2), .second, .val (.long (2305843009213693950 : Int64)), .second, .val (.int y4), .val (.long y20), .second, .unset, .unset] rfl 89 rfl ?_
        refine own_lload X18 hx (hb hby at_89) rfl 91 rfl ?_
        refine own_lload X18 hx (hb hby at_91) rfl 93 rfl ?_
        refine own_ladd X18 hx (hb hby at_93) 94 rfl ?_
        refine own_lload X18 hx (hb hby at_94) rfl 96 rfl ?_
        refine own_lrem X18 hx (hb hby at_96) (by decide) 97 rfl ?_
        generalize hy21 : ((y2 + (2305843009213693950 : Int64)) % (2305843009213693951 : Int64)) = y21
        refine own_lstore X18 hx (hb hby at_97) #[.val (.long v0), .second, .val (.long v1), .second, .val (.int v2), .val (.long (2305843009213693951 : Int64)), .second, .val (.long y2), .second, .val (.long (2305843009213693950 : Int64)), .second, .val (.int y4), .val (.long y20), .second, .val (.long y21), .second] rfl 99 rfl ?_
        refine own_lload X18 hx (hb hby at_99) rfl 101 rfl ?_
        refine own_lload X18 hx (hb hby at_101) rfl 103 rfl ?_
        refine own_lcmp X18 hx (hb hby at_103) 104 rfl ?_
        refine own_ifN X18 hx (hb hby at_104) (own_eqL (by rw [← hy20, ← hy21]; exact own_law hx1 hy1)).2 107 rfl ?_
        refine own_iconst X18 hx (hb hby at_107) (1 : Int32) rfl 108 rfl ?_
        refine own_goto X18 hx (hb hby at_108) 112 ⟨by decide, by decide⟩ ?_
        refine own_nreturn X18 hx Bd.notSynchronized hG Bd.returns (by simp) (hb hby at_112) (by decide) (by decide) ?_
        rw [e18]
        exact ⟨rfl, N19⟩
      ·
        refine own_icmpY X0 hx (hb hby at_71) (feq c17).2 80 ⟨by decide, by decide⟩ ?_
        refine own_lload X0 hx (hb hby at_80) rfl 82 rfl ?_
        refine own_lload X0 hx (hb hby at_82) rfl 84 rfl ?_
        have hy1 : own_In y3 := hy3 ▸ own_res v1
        refine own_callS X0 hx hZ hown (own_w hw 2 rfl) (own_w hw 3 rfl) (own_w hw 4 rfl) (own_w hw 5 rfl) (by decide) e0 (rm1 l Z a0 hw [] y2 y3 h0 n0) (by rw [hml]; rfl) pd_0 (argsL := [(.long y2), (.long y3)]) rfl (rest := []) rfl (hb hby at_84) 0 (Nat.le_of_eq rfl) (by decide) (by decide) (by decide) (by decide) 87 rfl (fun T22 L22 v22 X22 hQ22 => ?_)
        obtain ⟨rfl, N22, e22⟩ := hQ22
        have N23 := Fr.app N0 N22
        show own_Go p e below G (T22.setTop (mkF m 87 #[.val (.long v0), .second, .val (.long v1), .second, .val (.int v2), .val (.long (2305843009213693951 : Int64)), .second, .val (.long y2), .second, .val (.long y3), .second, .val (.int y4), .unset, .unset, .unset, .unset] [(.long (own_add y2 y3))]))
        generalize hy24 : (own_add y2 y3) = y24
        refine own_lstore X22 hx (hb hby at_87) #[.val (.long v0), .second, .val (.long v1), .second, .val (.int v2), .val (.long (2305843009213693951 : Int64)), .second, .val (.long y2), .second, .val (.long y3), .second, .val (.int y4), .val (.long y24), .second, .unset, .unset] rfl 89 rfl ?_
        refine own_lload X22 hx (hb hby at_89) rfl 91 rfl ?_
        refine own_lload X22 hx (hb hby at_91) rfl 93 rfl ?_
        refine own_ladd X22 hx (hb hby at_93) 94 rfl ?_
        refine own_lload X22 hx (hb hby at_94) rfl 96 rfl ?_
        refine own_lrem X22 hx (hb hby at_96) (by decide) 97 rfl ?_
        generalize hy25 : ((y2 + y3) % (2305843009213693951 : Int64)) = y25
        refine own_lstore X22 hx (hb hby at_97) #[.val (.long v0), .second, .val (.long v1), .second, .val (.int v2), .val (.long (2305843009213693951 : Int64)), .second, .val (.long y2), .second, .val (.long y3), .second, .val (.int y4), .val (.long y24), .second, .val (.long y25), .second] rfl 99 rfl ?_
        refine own_lload X22 hx (hb hby at_99) rfl 101 rfl ?_
        refine own_lload X22 hx (hb hby at_101) rfl 103 rfl ?_
        refine own_lcmp X22 hx (hb hby at_103) 104 rfl ?_
        refine own_ifN X22 hx (hb hby at_104) (own_eqL (by rw [← hy24, ← hy25]; exact own_law hx1 hy1)).2 107 rfl ?_
        refine own_iconst X22 hx (hb hby at_107) (1 : Int32) rfl 108 rfl ?_
        refine own_goto X22 hx (hb hby at_108) 112 ⟨by decide, by decide⟩ ?_
        refine own_nreturn X22 hx Bd.notSynchronized hG Bd.returns (by simp) (hb hby at_112) (by decide) (by decide) ?_
        rw [e22]
        exact ⟨rfl, N23⟩
set_option maxRecDepth 65536 in
set_option maxHeartbeats 40000000 in
theorem comes_1 {Post : Tables → Env → Array Value → State → Outcome → State → Prop} (hpost : ∀ tb e args s v u, (limb_1_1.after args s (.returned v) u = true ∧ limb_1_2.after args s (.returned v) u = true ∧ True) → FrameEnd s (.returned v) u (Jvm.fieldLocs frame_1_writes args s ++ Jvm.arrayLocs frame_1_arrays args s ++ Jvm.staticLocs frame_1_statics s) 0 0 → Post tb e args s (.returned v) u) :
    ArmFor flags0 classFile x code maxLocals ret World_1 tables_1 room_1 Calls_1 rest_1 Pre_1 Post := by
  intro l hfl _ _ p e ha hc hk s m args below hf hA hF happ hP
  obtain ⟨hcalls, hrest, hpre⟩ := hP
  obtain ⟨-, -, -, hnamed, -, -, -, hat⟩ := (Spec.applies_iff hf).mp happ
  obtain ⟨hg, hn⟩ := and_e (Cond.before_iff.mp (show (Jvm.Cond.and given_1 narrow_1).before args s = true from hpre))
  obtain ⟨hcount, k0⟩ := and_e hg
  obtain ⟨q0, k1⟩ := and_e k0
  obtain ⟨q1, k2⟩ := and_e k1
  have q2 := k2
  obtain ⟨w0, w1, w2, rfl⟩ : ∃ w0 w1 w2 : Value, args = #[w0, w1, w2] := by
    have hs : args.size = 3 := by simpa [Cond.value, given_1] using hcount
    obtain ⟨L⟩ := args
    match L, hs with
    | [w0, w1, w2], _ => exact ⟨w0, w1, w2, rfl⟩
  have hw := fun d (hd : d ∈ tables_1) => atoms_spec (ws := Jvm.Cond.code x code maxLocals ret :: tables_1) hat d (List.mem_cons_of_mem _ hd)
  have hfit : Fit s := fun {y c} hc i hi => by
    obtain ⟨ha, rfl⟩ := Array.getElem?_eq_some_iff.mp hc
    have q := List.all_eq_true.mp ((Array.all_eq_true_iff_forall_mem.mp hF) _ (Array.getElem_mem ha)) i (List.mem_range.mpr hi)
    simpa [Array.getElem?_eq_getElem hi] using q
  obtain ⟨i0, r0⟩ := own_isl q0
  obtain rfl : w0 = (.long i0) := Option.some.inj r0
  obtain ⟨i1, r1⟩ := own_isl q1
  obtain rfl : w1 = (.long i1) := Option.some.inj r1
  obtain ⟨i2, r2⟩ := is_v q2
  obtain rfl : w2 = (.int i2) := Option.some.inj r2
  obtain ⟨n, o, h1, h2, h3, _, L, rfl, ⟨rfl, N⟩, hq⟩ := rm0 l s _ hw tables_1 i0 i1 i2 s.heap s.heap.size p e ha hc hk s m _ below hf ((Spec.applies_iff_loose hf).mp happ).1 ⟨rfl, State.Warmed39.refl s, rfl⟩ trivial
  refine ⟨n, _, h1, h2, h3, hpost _ _ _ _ _ _ ⟨Cond.after_iff.mpr rfl, Cond.after_iff.mpr (eq_i res_at (Term.int_eval (1)) rfl), trivial⟩ ⟨hq.1, hq.2.1, (hq.2.2.sift fun y hy => Or.inr (N y hy)).mono (by decide) (by decide)⟩⟩
theorem main_1_1 : Claimed_1_1 := comes_1 fun _ _ _ _ _ _ h hF => ⟨h.1, hF⟩
theorem main_1_2 : Claimed_1_2 := comes_1 fun _ _ _ _ _ _ h hF => ⟨h.2.1, hF⟩
end Jvm.Pilot.@@N@@
namespace Jvm.Pilot.@@N@@
open Jvm Jvm.ClassFile Sem Op Lib Jvm.Free Jvm.Stand Jvm.Pilot.@@N@@.Jvm.D
/-! MADE BY PROGRAM (witnessworld.py) out of the Statement's table words and the real class files: 9 classes; the members and pool entries that the words name. The judged class is class 1, her method 1. -/
namespace start1
open Jvm.ClassFile
def u (s : String) : CpInfo := .utf8 (stringToUtf16 s)
/-- a pool by its gaps: so many unusable entries, then the entry; so many at the end -/
def gap : Nat → List CpInfo → List CpInfo
  | 0, r => r
  | n + 1, r => .unusable :: gap n r
def poolList (es : List (Nat × CpInfo)) (last : Nat) : List CpInfo := es.foldr (fun e r => gap e.1 (e.2 :: r)) (gap last [])
def pool (es : List (Nat × CpInfo)) (last : Nat) : Array CpInfo := ⟨poolList es last⟩
def fileOf (pool : Array CpInfo) (this : Nat) (attrs : Array Attribute := #[]) (ms : Array MethodInfo := #[]) (fl : Nat := 33) (sup : Nat := 0) (ifs : Array Nat := #[]) (fds : Array FieldInfo := #[]) : ClassFile where
  minorVersion := 0
  majorVersion := 65
  constantPool := pool
  accessFlags := fl
  thisClass := this
  superClass := sup
  interfaces := ifs
  fields := fds
  methods := ms
  attributes := attrs
def plain (name : String) (sup : Option ClassId) : Class where
  name := name
  kind := .ordinary
  loader := none
  accessFlags := 33
  super := sup
  interfaces := #[]
  cf := none
  fields := #[]
  methods := #[]
  instanceTypes := #[]
  staticTypes := #[]
  resolved := #[]
  callSites := []
  init := .initialized
  statics := none
  mirror := none

def pool0 : Array CpInfo := pool [(5, u "<init>"), (0, u "()V"), (1, .class_ 10), (1, u "java/lang/Object")] 113

def k0m0 : Method := { name := "<init>", desc := "()V", sig := { parameters := [], returnType := none }, accessFlags := 1, code := none }
/-- java/lang/Object -/
def k0 : Class := { plain "java/lang/Object" none with
  accessFlags := 33
  interfaces := #[]
  cf := some (fileOf pool0 8 #[] #[{ accessFlags := 1, nameIndex := 5, descriptorIndex := 6, attributes := #[] }] 33 0 #[] #[])
  fields := #[]
  methods := #[k0m0]
  instanceTypes := #[]
  staticTypes := #[]
  resolved := Array.replicate 124 none
  statics := none }

def pool1 : Array CpInfo := pool [(2, .class_ 4), (1, u "java/lang/Object"), (0, u "<init>"), (0, u "()V"), (0, .class_ 8), (0, u "com/example/tree_distance_search/treedistancesearch/search/Residues"), (0, .long 2305843009213693951), (3, .long 9223372036854775807), (1, .methodref 7 16), (0, .nameAndType 17 18), (0, u "add"), (0, u "(JJ)J"), (0, .class_ 20), (0, u "com/example/tree_distance_search/treedistancesearch/search/ResiduesAddPinLaw"), (2, u "law"), (0, u "(JJI)Z")] 3

def k1m0 : Method := { name := "<init>", desc := "()V", sig := { parameters := [], returnType := none }, accessFlags := 2, code := none }
def k1c1 : Code := { maxStack := 4, maxLocals := 16, code := code, exceptionTable := #[], attributes := #[] }
def k1m1 : Method := { name := "law", desc := "(JJI)Z", sig := { parameters := [.long, .long, .int], returnType := some .boolean }, accessFlags := 9, code := some k1c1 }
/-- com/example/tree_distance_search/treedistancesearch/search/ResiduesAddPinLaw -/
def k1 : Class := { plain "com/example/tree_distance_search/treedistancesearch/search/ResiduesAddPinLaw" (some 0) with
  accessFlags := 49
  interfaces := #[]
  cf := some (fileOf pool1 19 #[] #[{ accessFlags := 2, nameIndex := 5, descriptorIndex := 6, attributes := #[] }, { accessFlags := 9, nameIndex := 23, descriptorIndex := 24, attributes := #[] }] 49 2 #[] #[])
  fields := #[]
  methods := #[k1m0, k1m1]
  instanceTypes := #[]
  staticTypes := #[]
  resolved := Array.replicate 28 none
  statics := none }

def pool2 : Array CpInfo := pool [(2, .class_ 4), (1, u "java/lang/Object"), (0, u "<init>"), (0, u "()V"), (0, .class_ 8), (0, u "com/example/tree_distance_search/treedistancesearch/search/Residues"), (0, .long 2305843009213693951), (6, u "(JJ)J"), (2, u "add"), (6, u "PRIME"), (0, u "J")] 12

def k2m0 : Method := { name := "<init>", desc := "()V", sig := { parameters := [], returnType := none }, accessFlags := 2, code := none }
def k2c1 : Code := { maxStack := 4, maxLocals := 6, code := prog_73_method_3_code, exceptionTable := #[], attributes := #[] }
def k2m1 : Method := { name := "add", desc := "(JJ)J", sig := { parameters := [.long, .long], returnType := some .long }, accessFlags := 8, code := some k2c1 }
/-- com/example/tree_distance_search/treedistancesearch/search/Residues -/
def k2 : Class := { plain "com/example/tree_distance_search/treedistancesearch/search/Residues" (some 0) with
  accessFlags := 48
  interfaces := #[]
  cf := some (fileOf pool2 7 #[] #[{ accessFlags := 2, nameIndex := 5, descriptorIndex := 6, attributes := #[] }, { accessFlags := 8, nameIndex := 19, descriptorIndex := 16, attributes := #[] }] 48 2 #[] #[{ accessFlags := 24, nameIndex := 26, descriptorIndex := 27, attributes := #[] }])
  fields := #[{ name := "PRIME", type := .long, accessFlags := 24, slot := 0, constantValue := 0 }]
  methods := #[k2m0, k2m1]
  instanceTypes := #[]
  staticTypes := #[.long]
  resolved := Array.replicate 40 none
  statics := none }

def pool3 : Array CpInfo := pool [(1, u "java/lang/Cloneable"), (0, .class_ 1), (0, u "java/lang/Object"), (0, .class_ 3)] 3

/-- java/lang/Cloneable -/
def k3 : Class := { plain "java/lang/Cloneable" (some 0) with
  accessFlags := 1537
  interfaces := #[]
  cf := some (fileOf pool3 2 #[] #[] 1537 4 #[] #[])
  fields := #[]
  methods := #[]
  instanceTypes := #[]
  staticTypes := #[]
  resolved := Array.replicate 8 none
  statics := none }

def pool4 : Array CpInfo := pool [(1, u "java/io/Serializable"), (0, .class_ 1), (0, u "java/lang/Object"), (0, .class_ 3)] 3

/-- java/io/Serializable -/
def k4 : Class := { plain "java/io/Serializable" (some 0) with
  accessFlags := 1537
  interfaces := #[]
  cf := some (fileOf pool4 2 #[] #[] 1537 4 #[] #[])
  fields := #[]
  methods := #[]
  instanceTypes := #[]
  staticTypes := #[]
  resolved := Array.replicate 8 none
  statics := none }

/-- the primitive byte -/
def k5 : Class := { plain "byte" none with kind := .primitive 'B', accessFlags := 0x411 }
/-- [B -/
def k6 : Class := { plain "[B" (some 0) with kind := .array 5 .byte, interfaces := #[3, 4], accessFlags := 1041 }

/-- the primitive int -/
def k7 : Class := { plain "int" none with kind := .primitive 'I', accessFlags := 0x411 }
/-- [I -/
def k8 : Class := { plain "[I" (some 0) with kind := .array 7 .int, interfaces := #[3, 4], accessFlags := 1041 }

def heap : Heap := #[]
def classes : Array Class := #[k0, k1, k2, k3, k4, k5, k6, k7, k8]
def interned : List (Array UInt16 × Addr) := []
def slotsUsed : Nat := 0
def theMethod : MethodId := ⟨1, 1⟩
def args0 : Array Value := #[.long 5, .long 9, .int 1]
def aboutOver (below : List Frame) : State where
  vm := { classes := classes, interned := interned.toArray }
  heap := heap
  slotsUsed := slotsUsed
  threads := #[{ frames := .invoking theMethod args0 :: below }]
def below0 : List Frame := [.native { method := ⟨0, 0⟩, args := #[] }]
def about1 : State := aboutOver below0
def p0 : Program := .bare "" "" ""
def e0 : Env := launch0.env 0 0 0
theorem w_frames : about1.frames = Frame.invoking theMethod args0 :: below0 := rfl
set_option maxRecDepth 65536 in
theorem w_args : argsFit about1.vm theMethod args0 = true := by decide +kernel
set_option maxRecDepth 65536 in
theorem w_heap : heapFits about1 = true := by decide +kernel
set_option maxRecDepth 65536 in
theorem w_runnable : about1.curStatus? = some .runnable := by decide +kernel
set_option maxRecDepth 65536 in
theorem w_alone : about1.alone = true := by decide +kernel
set_option maxRecDepth 65536 in
theorem w_named : about1.methodNamed? x = some theMethod := by decide +kernel
set_option maxRecDepth 65536 in
theorem w_hears : about1.hears theMethod below0 = true := by decide +kernel
set_option maxRecDepth 65536 in
theorem w_ripe : about1.ripe theMethod args0 below0 = true := by decide +kernel
theorem w_running : about1.status = .running := rfl
set_option maxRecDepth 65536 in
theorem w_room : about1.hasRoom e0.platform room_1 = true :=
  launch0.hasRoom_least _ room_1 (by decide +kernel) (by decide +kernel) (by decide +kernel) (by decide +kernel) (by decide +kernel) (by decide +kernel)
theorem allAtoms_all (ts : List Jvm.Cond) (a : Array Jvm.Value) (st : Jvm.State) : (allAtoms ts).before a st = ts.all (fun c => c.before a st) := by
  induction ts with
  | nil => rfl
  | cons c t ih =>
    show (Jvm.Cond.and c (allAtoms t)).before a st = _
    rw [Jvm.Cond.before_and, ih, List.all_cons]
def words1 : List Jvm.Cond := Jvm.Cond.code x code maxLocals ret :: tables_1
/-- a 'code' word, met by the world's own term for the bytes: nothing is compared byte by byte -/
theorem code_word {y : MethodName} {bytes : ByteArray} {mx : Nat} {rt : Option FieldType} {a : Array Value} {s : State} {m : MethodId} {meth : Method} {c : Code} (h1 : s.methodNamed? y = some m) (h2 : s.vm.method? m = some meth) (h3 : meth.code = some c) (h4 : c.code = bytes)
    (h5 : (c.maxLocals == mx && c.exceptionTable.isEmpty && decide (c.maxStack ≤ mostOperands) && decide (meth.sig.returnType = rt) && !meth.locks && decide (parseMethodDescriptor y.desc = some meth.sig)) = true) : (Jvm.Cond.code y bytes mx rt).before a s = true := by
  simp only [Bool.and_eq_true, beq_iff_eq, Bool.not_eq_true', decide_eq_true_eq] at h5
  obtain ⟨⟨⟨⟨⟨g1, g2⟩, g3⟩, g4⟩, g5⟩, g6⟩ := h5
  simp [Cond.before, Cond.holds, Cond.value, h1, h2, h3, h4, g1, g2, g3, g4, g5, g6]
def isCode : Jvm.Cond → Bool
  | .code _ _ _ _ => true
  | _ => false
theorem all_split {L : List Jvm.Cond} {P : Jvm.Cond → Bool} (h1 : L.all (fun c => isCode c || P c) = true) (h2 : ∀ c ∈ L.filter isCode, P c = true) : L.all P = true := by
  refine List.all_eq_true.mpr fun c hc => ?_
  have h := List.all_eq_true.mp h1 c hc
  rcases Bool.eq_false_or_eq_true (isCode c) with hi | hi
  · exact h2 c (List.mem_filter.mpr ⟨hc, hi⟩)
  · simpa [hi] using h
set_option maxRecDepth 65536 in
theorem w_c0 : (Jvm.Cond.code x code maxLocals ret).before args0 about1 = true := code_word (m := ⟨1, 1⟩) (meth := k1m1) (c := k1c1) (by decide +kernel) rfl rfl rfl (by decide +kernel)
set_option maxRecDepth 65536 in
theorem w_c1 : (Jvm.Cond.code ({ cls := "com/example/tree_distance_search/treedistancesearch/search/Residues", name := "add", desc := "(JJ)J" } : Jvm.MethodName) prog_73_method_3_code (6 : Nat) (Option.some Jvm.ClassFile.FieldType.long)).before args0 about1 = true := code_word (m := ⟨2, 1⟩) (meth := k2m1) (c := k2c1) (by decide +kernel) rfl rfl rfl (by decide +kernel)
def codes1 : List Jvm.Cond := [Jvm.Cond.code x code maxLocals ret, Jvm.Cond.code ({ cls := "com/example/tree_distance_search/treedistancesearch/search/Residues", name := "add", desc := "(JJ)J" } : Jvm.MethodName) prog_73_method_3_code (6 : Nat) (Option.some Jvm.ClassFile.FieldType.long)]
set_option maxRecDepth 65536 in
theorem codes_eq : words1.filter isCode = codes1 := rfl
theorem w_codes : ∀ c ∈ words1.filter isCode, c.before args0 about1 = true := by
  rw [codes_eq]
  intro c hc
  simp only [codes1, List.mem_cons, List.not_mem_nil, or_false] at hc
  rcases hc with rfl | rfl
  · exact w_c0
  · exact w_c1
set_option maxRecDepth 65536 in
theorem w_t1 : words1.all (fun c => isCode c || c.before args0 about1) = true := by decide +kernel
theorem w_tables : (allAtoms (Jvm.Cond.code x code maxLocals ret :: tables_1)).before args0 about1 = true := by
  rw [allAtoms_all]
  show words1.all (fun c => c.before args0 about1) = true
  refine all_split ?_ w_codes
  rw [w_t1]
set_option maxRecDepth 65536 in
theorem w_case : (Jvm.Cond.and given_1 narrow_1).before args0 about1 = true := by decide +kernel
theorem w_applies : (headSpec (Jvm.Cond.code x code maxLocals ret :: tables_1) room_1).applies x e0.platform about1 = true :=
  (Spec.applies_iff w_frames).mpr ⟨w_running, w_runnable, w_alone, w_named, w_hears, w_ripe, w_room, w_tables⟩
theorem atStart : AtStart classFile x code maxLocals ret World_1 tables_1 room_1 Calls_1 rest_1 Pre_1 launch0 p0 e0 about1 theMethod args0 below0 :=
  ⟨lists_1, trivial, launch0.admits_env _ _ _, launch0.least_env, fairChoices_fair.cas, fairChoices_fair.clock, w_frames, w_args, w_heap, w_applies, trivial, trivial, w_case⟩
end start1
theorem witness_1 : WitnessClaimed_1 := ⟨start1.p0, start1.e0, start1.about1, start1.theMethod, start1.args0, start1.below0, start1.atStart⟩
end Jvm.Pilot.@@N@@

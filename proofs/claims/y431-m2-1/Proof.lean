import JvmDerived
import JvmDerived.Pilot.@@N@@Statement
import JvmDerived.Pilot.@@N@@Code
set_option linter.unusedVariables false
set_option linter.unusedSimpArgs false
set_option maxRecDepth 65536
set_option maxHeartbeats 40000000
@@BLOCK:NumsL.lean.txt@@
namespace Jvm.Pilot.@@N@@
open Jvm Jvm.ClassFile Sem Op Lib Jvm.Free Jvm.Stand Jvm.LawKit Jvm.RoadKit Bundle Jvm.Pilot.@@N@@.Jvm.D
section OwnHead
variable {p : Program} {l : Launch} {e : Env} {R : Room} {s : State} {m : MethodId} {args : Array Value} {below : List Frame} {meth : Method} {c : Code} {T : State} {locs : List Loc} {cells slots : Nat} {Z : State} {a0 : Array Value} {h : Heap}
/-- from here the run comes to a state of which F holds -/
def own_Go (tb : Tables) (e : Env) (below : List Frame) (F : State → Prop) (U : State) : Prop := ∃ t, Steps tb e below U t ∧ F t
theorem own_by {tb : Tables} {F : State → Prop} {U U' : State} (q : ∀ t, Steps tb e below U' t → Steps tb e below U t) (k : own_Go tb e below F U') : own_Go tb e below F U := by
  obtain ⟨t, a, b⟩ := k
  exact ⟨t, q t a, b⟩
theorem own_ent {tb : Tables} {F : State → Prop} {T : State} {f g : JFrame} (q : f = g) (k : own_Go tb e below F (T.setTop g)) : own_Go tb e below F (T.setTop f) := by
  rw [q]
  exact k
abbrev own_rm (f c s l : Nat) : Room := { frames := f, cells := c, slots := s, locals := l }
theorem own_byR {tb : Tables} {F : State → Prop} {T U : State} {m : MethodId} {pc : Nat} {Ls : Array Slot} {v : Value} {rest : List Value} (q : ∀ t, Steps tb e below (T.setTop (mkF m pc Ls ((some v).toList ++ rest))) t → Steps tb e below U t) (pc' : Nat) (hp : pc = pc') (k : own_Go tb e below F (T.setTop (mkF m pc' Ls (v :: rest)))) : own_Go tb e below F U := by
  subst hp
  exact own_by q k
theorem own_byV {tb : Tables} {F : State → Prop} {T U : State} {m : MethodId} {pc : Nat} {Ls : Array Slot} {rest : List Value} (q : ∀ t, Steps tb e below (T.setTop (mkF m pc Ls ((none : Option Value).toList ++ rest))) t → Steps tb e below U t) (pc' : Nat) (hp : pc = pc') (k : own_Go tb e below F (T.setTop (mkF m pc' Ls rest))) : own_Go tb e below F U := by
  subst hp
  exact own_by q k
/-- the method has returned, and what its contract says holds -/
def own_Fin (s : State) (below : List Frame) (Q : Option Value → Heap → List Loc → Prop) (C N : Nat) (t : State) : Prop := ∃ o, t.status = .running ∧ Ended t below o ∧ ∃ v L, o = .returned v ∧ Q v t.heap L ∧ FrameEnd s o t L C N
theorem own_fin (X : Stand p l e R s m args below meth c T locs cells slots) {Q : Option Value → Heap → List Loc → Prop} {C N : Nat} {v : Option Value} (hk : meth.locks = false) (hv : meth.sig.returnType = none → v = none) {U : State}
    (hst : ∀ fs, (∀ (f : JFrame) (acts : List Action), f.method = m → f.locked = none → f.entered = [] → (doReturn e (T.setTop f) acts v).1 = T.setFrames fs) → Steps p.tables e below U (T.setFrames fs)) (hQ : Q v T.heap locs) (hC : cells ≤ C) (hN : slots ≤ N) :
    own_Go p.tables e below (own_Fin s below Q C N) U := by
  obtain ⟨fs, hr, hrun, hended, hW, hsame⟩ := X.leave (v := v) hv hk
  exact ⟨_, hst fs hr, _, hrun, hended, v, locs, rfl, hQ, ⟨_, rfl⟩, hW, hsame.mono hC hN⟩
theorem own_ret (X : Stand p l e R s m args below meth c T locs cells slots) (hx : p.tables.exec = Jvm.exec) {Q : Option Value → Heap → List Loc → Prop} {C N : Nat} (hk : meth.locks = false) {pc : Nat} {Ls : Array Slot} {w : Value} {t : FieldType} {i : Instr} {rest : List Value} (hret : meth.sig.returnType = some t) (hn : narrow t w = w)
    (hi : (i = .ireturn ∧ (t = .int ∨ t = .boolean ∨ t = .byte ∨ t = .char ∨ t = .short) ∧ ∃ z, w = .int z) ∨ (i = .lreturn ∧ t = .long ∧ ∃ z, w = .long z) ∨ (i = .dreturn ∧ t = .double ∧ ∃ z, w = .double z) ∨ (i = .freturn ∧ t = .float ∧ ∃ z, w = .float z) ∨ (i = .areturn ∧ t.isReference = true ∧ w.isRef = true))
    (hd : decode c.code pc = .ok (i, 1)) (hQ : Q (some w) T.heap locs) (hC : cells ≤ C) (hN : slots ≤ N) : own_Go p.tables e below (own_Fin s below Q C N) (T.setTop (mkF m pc Ls (w :: rest))) :=
  own_fin X hk (fun q => by rw [hret] at q; cases q) (fun fs hr => retOut X hx hret hn hi hd hr) hQ hC hN
theorem own_retI (X : Stand p l e R s m args below meth c T locs cells slots) (hx : p.tables.exec = Jvm.exec) {Q : Option Value → Heap → List Loc → Prop} {C N : Nat} (hk : meth.locks = false) {pc : Nat} {Ls : Array Slot} {z : Int32} {rest : List Value} (hret : meth.sig.returnType = some .int)
    (hd : decode c.code pc = .ok (.ireturn, 1)) (hQ : Q (some (.int z)) T.heap locs) (hC : cells ≤ C) (hN : slots ≤ N) : own_Go p.tables e below (own_Fin s below Q C N) (T.setTop (mkF m pc Ls (.int z :: rest))) :=
  own_ret X hx hk hret rfl (Or.inl ⟨rfl, Or.inl rfl, z, rfl⟩) hd hQ hC hN
theorem own_retZ (X : Stand p l e R s m args below meth c T locs cells slots) (hx : p.tables.exec = Jvm.exec) {Q : Option Value → Heap → List Loc → Prop} {C N : Nat} (hk : meth.locks = false) {pc : Nat} {Ls : Array Slot} {z z' : Int32} {rest : List Value} (hret : meth.sig.returnType = some .boolean)
    (hd : decode c.code pc = .ok (.ireturn, 1)) (hz : nar .boolean z = z') (hQ : Q (some (.int z')) T.heap locs) (hC : cells ≤ C) (hN : slots ≤ N) : own_Go p.tables e below (own_Fin s below Q C N) (T.setTop (mkF m pc Ls (.int z :: rest))) := by
  subst hz
  exact own_fin X hk (fun q => by rw [hret] at q; cases q) (fun fs hr => retN X hx hret (Or.inl rfl) hd hr) hQ hC hN
theorem own_retA (X : Stand p l e R s m args below meth c T locs cells slots) (hx : p.tables.exec = Jvm.exec) {Q : Option Value → Heap → List Loc → Prop} {C N : Nat} (hk : meth.locks = false) {pc : Nat} {Ls : Array Slot} {w : Value} {t : FieldType} {rest : List Value} (hret : meth.sig.returnType = some t) (ht : t.isReference = true) (hw : w.isRef = true)
    (hd : decode c.code pc = .ok (.areturn, 1)) (hn : narrow t w = w) (hQ : Q (some w) T.heap locs) (hC : cells ≤ C) (hN : slots ≤ N) : own_Go p.tables e below (own_Fin s below Q C N) (T.setTop (mkF m pc Ls (w :: rest))) :=
  own_ret X hx hk hret hn (Or.inr (Or.inr (Or.inr (Or.inr ⟨rfl, ht, hw⟩)))) hd hQ hC hN
theorem own_retJ (X : Stand p l e R s m args below meth c T locs cells slots) (hx : p.tables.exec = Jvm.exec) {Q : Option Value → Heap → List Loc → Prop} {C N : Nat} (hk : meth.locks = false) {pc : Nat} {Ls : Array Slot} {z : Int64} {rest : List Value} (hret : meth.sig.returnType = some .long)
    (hd : decode c.code pc = .ok (.lreturn, 1)) (hQ : Q (some (.long z)) T.heap locs) (hC : cells ≤ C) (hN : slots ≤ N) : own_Go p.tables e below (own_Fin s below Q C N) (T.setTop (mkF m pc Ls (.long z :: rest))) :=
  own_ret X hx hk hret rfl (Or.inr (Or.inl ⟨rfl, rfl, z, rfl⟩)) hd hQ hC hN
theorem own_retV (X : Stand p l e R s m args below meth c T locs cells slots) (hx : p.tables.exec = Jvm.exec) {Q : Option Value → Heap → List Loc → Prop} {C N : Nat} (hk : meth.locks = false) {pc : Nat} {Ls : Array Slot} (hret : meth.sig.returnType = none)
    (hd : decode c.code pc = .ok (.return_, 1)) (hQ : Q none T.heap locs) (hC : cells ≤ C) (hN : slots ≤ N) : own_Go p.tables e below (own_Fin s below Q C N) (T.setTop (mkF m pc Ls [])) :=
  own_fin X hk (fun _ => rfl) (fun fs hr => X.returnOut hx hret hd hr) hQ hC hN
theorem own_lsw0 {tb : Tables} [Ours tb] {target : State} {g : JFrame} (q : At T m c below) (hx : tb.exec = Jvm.exec) (hg : g.method = m) {dflt : Int} {pairs : Array (Int × Int)} {len : Nat} {o : Int} {pc0 pc' : Nat} (hpc : g.pc = pc0) (hd : decode c.code g.pc = .ok (.lookupswitch dflt pairs, len)) {i : Int32} {rest : List Value} (hs : g.stack = .int i :: rest)
    (hoff : lookupswitch.offset pairs.toList dflt i.toInt = o) (hso : (pairs.toList.zip pairs.toList.tail).all (fun q => decide (q.1.1 < q.2.1)) = true) (ho : 0 ≤ (pc0 : Int) + o) (hp : ((pc0 : Int) + o).toNat = pc') (hr : Steps tb e below (T.setTop { g with pc := pc', stack := rest }) target) : Steps tb e below (T.setTop g) target := by
  subst hg hpc hp
  jvm_step q [q.top, hx, hd, hs, hoff, ho, lookupswitch.wp_chain]
  refine ⟨fun a b a1 b1 hm => ?_, hr⟩
  simpa using List.all_eq_true.mp hso _ hm
theorem own_iload_n (X : Stand p l e R s m args below meth c T locs cells slots) (hx : p.tables.exec = Jvm.exec) {F : State → Prop} {pc : Nat} {Ls : Array Slot} {St : List Value} {i : Fin 4} {z : Int32} (hd : decode c.code pc = .ok (.iload_n i, 1)) (hl : Ls[i.val]? = some (.val (.int z))) (pc' : Nat) (hp : pc + 1 = pc') (k : own_Go p.tables e below F (T.setTop (mkF m pc' Ls (.int z :: St)))) : own_Go p.tables e below F (T.setTop (mkF m pc Ls (St))) := by
  subst hp
  exact own_by (fun _ q => XS.iloadN X.here hx rfl hd hl q) k
theorem own_iload (X : Stand p l e R s m args below meth c T locs cells slots) (hx : p.tables.exec = Jvm.exec) {F : State → Prop} {pc : Nat} {Ls : Array Slot} {St : List Value} {i : Nat} {z : Int32} (hd : decode c.code pc = .ok (.iload i, 2)) (hl : Ls[i]? = some (.val (.int z))) (pc' : Nat) (hp : pc + 2 = pc') (k : own_Go p.tables e below F (T.setTop (mkF m pc' Ls (.int z :: St)))) : own_Go p.tables e below F (T.setTop (mkF m pc Ls (St))) := by
  subst hp
  exact own_by (fun _ q => XS.iload X.here hx rfl hd hl q) k
theorem own_istore_n (X : Stand p l e R s m args below meth c T locs cells slots) (hx : p.tables.exec = Jvm.exec) {F : State → Prop} {pc : Nat} {Ls : Array Slot} {St : List Value} {i : Fin 4} {z : Int32} (hd : decode c.code pc = .ok (.istore_n i, 1)) (l' : Array Slot) (hl : storeLocals Ls i.val (.int z) = some l') (pc' : Nat) (hp : pc + 1 = pc') (k : own_Go p.tables e below F (T.setTop (mkF m pc' l' (St)))) : own_Go p.tables e below F (T.setTop (mkF m pc Ls (.int z :: St))) := by
  subst hp
  exact own_by (fun _ q => XS.istoreN X.here hx rfl hd rfl hl q) k
theorem own_istore (X : Stand p l e R s m args below meth c T locs cells slots) (hx : p.tables.exec = Jvm.exec) {F : State → Prop} {pc : Nat} {Ls : Array Slot} {St : List Value} {i : Nat} {z : Int32} (hd : decode c.code pc = .ok (.istore i, 2)) (l' : Array Slot) (hl : storeLocals Ls i (.int z) = some l') (pc' : Nat) (hp : pc + 2 = pc') (k : own_Go p.tables e below F (T.setTop (mkF m pc' l' (St)))) : own_Go p.tables e below F (T.setTop (mkF m pc Ls (.int z :: St))) := by
  subst hp
  exact own_by (fun _ q => XS.istore X.here hx rfl hd rfl hl q) k
theorem own_lload_n (X : Stand p l e R s m args below meth c T locs cells slots) (hx : p.tables.exec = Jvm.exec) {F : State → Prop} {pc : Nat} {Ls : Array Slot} {St : List Value} {i : Fin 4} {z : Int64} (hd : decode c.code pc = .ok (.lload_n i, 1)) (hl : Ls[i.val]? = some (.val (.long z))) (pc' : Nat) (hp : pc + 1 = pc') (k : own_Go p.tables e below F (T.setTop (mkF m pc' Ls (.long z :: St)))) : own_Go p.tables e below F (T.setTop (mkF m pc Ls (St))) := by
  subst hp
  exact own_by (fun _ q => XS.lloadN X.here hx rfl hd hl q) k
theorem own_lload (X : Stand p l e R s m args below meth c T locs cells slots) (hx : p.tables.exec = Jvm.exec) {F : State → Prop} {pc : Nat} {Ls : Array Slot} {St : List Value} {i : Nat} {z : Int64} (hd : decode c.code pc = .ok (.lload i, 2)) (hl : Ls[i]? = some (.val (.long z))) (pc' : Nat) (hp : pc + 2 = pc') (k : own_Go p.tables e below F (T.setTop (mkF m pc' Ls (.long z :: St)))) : own_Go p.tables e below F (T.setTop (mkF m pc Ls (St))) := by
  subst hp
  exact own_by (fun _ q => XS.lload X.here hx rfl hd hl q) k
theorem own_lstore_n (X : Stand p l e R s m args below meth c T locs cells slots) (hx : p.tables.exec = Jvm.exec) {F : State → Prop} {pc : Nat} {Ls : Array Slot} {St : List Value} {i : Fin 4} {z : Int64} (hd : decode c.code pc = .ok (.lstore_n i, 1)) (l' : Array Slot) (hl : storeLocals Ls i.val (.long z) = some l') (pc' : Nat) (hp : pc + 1 = pc') (k : own_Go p.tables e below F (T.setTop (mkF m pc' l' (St)))) : own_Go p.tables e below F (T.setTop (mkF m pc Ls (.long z :: St))) := by
  subst hp
  exact own_by (fun _ q => XS.lstoreN X.here hx rfl hd rfl hl q) k
theorem own_lstore (X : Stand p l e R s m args below meth c T locs cells slots) (hx : p.tables.exec = Jvm.exec) {F : State → Prop} {pc : Nat} {Ls : Array Slot} {St : List Value} {i : Nat} {z : Int64} (hd : decode c.code pc = .ok (.lstore i, 2)) (l' : Array Slot) (hl : storeLocals Ls i (.long z) = some l') (pc' : Nat) (hp : pc + 2 = pc') (k : own_Go p.tables e below F (T.setTop (mkF m pc' l' (St)))) : own_Go p.tables e below F (T.setTop (mkF m pc Ls (.long z :: St))) := by
  subst hp
  exact own_by (fun _ q => XS.lstore X.here hx rfl hd rfl hl q) k
theorem own_aload_n (X : Stand p l e R s m args below meth c T locs cells slots) (hx : p.tables.exec = Jvm.exec) {F : State → Prop} {pc : Nat} {Ls : Array Slot} {St : List Value} {i : Fin 4} {v : Value} (hd : decode c.code pc = .ok (.aload_n i, 1)) (hl : Ls[i.val]? = some (.val v)) (hv : v.isRef = true) (pc' : Nat) (hp : pc + 1 = pc') (k : own_Go p.tables e below F (T.setTop (mkF m pc' Ls (v :: St)))) : own_Go p.tables e below F (T.setTop (mkF m pc Ls (St))) := by
  subst hp
  exact own_by (fun _ q => XS.aloadN X.here hx rfl hd hl hv q) k
theorem own_aload (X : Stand p l e R s m args below meth c T locs cells slots) (hx : p.tables.exec = Jvm.exec) {F : State → Prop} {pc : Nat} {Ls : Array Slot} {St : List Value} {i : Nat} {v : Value} (hd : decode c.code pc = .ok (.aload i, 2)) (hl : Ls[i]? = some (.val v)) (hv : v.isRef = true) (pc' : Nat) (hp : pc + 2 = pc') (k : own_Go p.tables e below F (T.setTop (mkF m pc' Ls (v :: St)))) : own_Go p.tables e below F (T.setTop (mkF m pc Ls (St))) := by
  subst hp
  exact own_by (fun _ q => XS.aload X.here hx rfl hd hl hv q) k
theorem own_astore_n (X : Stand p l e R s m args below meth c T locs cells slots) (hx : p.tables.exec = Jvm.exec) {F : State → Prop} {pc : Nat} {Ls : Array Slot} {St : List Value} {i : Fin 4} {v : Value} (hd : decode c.code pc = .ok (.astore_n i, 1)) (l' : Array Slot) (hv : v.isRef = true) (hl : storeLocals Ls i.val v = some l') (pc' : Nat) (hp : pc + 1 = pc') (k : own_Go p.tables e below F (T.setTop (mkF m pc' l' (St)))) : own_Go p.tables e below F (T.setTop (mkF m pc Ls (v :: St))) := by
  subst hp
  exact own_by (fun _ q => XS.astoreN X.here hx rfl hd rfl hv hl q) k
theorem own_astore (X : Stand p l e R s m args below meth c T locs cells slots) (hx : p.tables.exec = Jvm.exec) {F : State → Prop} {pc : Nat} {Ls : Array Slot} {St : List Value} {i : Nat} {v : Value} (hd : decode c.code pc = .ok (.astore i, 2)) (l' : Array Slot) (hv : v.isRef = true) (hl : storeLocals Ls i v = some l') (pc' : Nat) (hp : pc + 2 = pc') (k : own_Go p.tables e below F (T.setTop (mkF m pc' l' (St)))) : own_Go p.tables e below F (T.setTop (mkF m pc Ls (v :: St))) := by
  subst hp
  exact own_by (fun _ q => XS.astore X.here hx rfl hd rfl hv hl q) k
theorem own_iconst (X : Stand p l e R s m args below meth c T locs cells slots) (hx : p.tables.exec = Jvm.exec) {F : State → Prop} {pc : Nat} {Ls : Array Slot} {St : List Value} {i : Int} (hd : decode c.code pc = .ok (.iconst i, 1)) (z : Int32) (hz : Int32.ofInt i = z) (pc' : Nat) (hp : pc + 1 = pc') (k : own_Go p.tables e below F (T.setTop (mkF m pc' Ls (.int z :: St)))) : own_Go p.tables e below F (T.setTop (mkF m pc Ls (St))) := by
  subst hp hz
  exact own_by (fun _ q => XS.iconst X.here hx rfl hd  q) k
theorem own_bipush (X : Stand p l e R s m args below meth c T locs cells slots) (hx : p.tables.exec = Jvm.exec) {F : State → Prop} {pc : Nat} {Ls : Array Slot} {St : List Value} {i : Int} (hd : decode c.code pc = .ok (.bipush i, 2)) (z : Int32) (hz : (Int8.ofInt i).toInt32 = z) (pc' : Nat) (hp : pc + 2 = pc') (k : own_Go p.tables e below F (T.setTop (mkF m pc' Ls (.int z :: St)))) : own_Go p.tables e below F (T.setTop (mkF m pc Ls (St))) := by
  subst hp hz
  exact own_by (fun _ q => XS.bipush X.here hx rfl hd  q) k
theorem own_sipush (X : Stand p l e R s m args below meth c T locs cells slots) (hx : p.tables.exec = Jvm.exec) {F : State → Prop} {pc : Nat} {Ls : Array Slot} {St : List Value} {i : Int} (hd : decode c.code pc = .ok (.sipush i, 3)) (z : Int32) (hz : (Int16.ofInt i).toInt32 = z) (pc' : Nat) (hp : pc + 3 = pc') (k : own_Go p.tables e below F (T.setTop (mkF m pc' Ls (.int z :: St)))) : own_Go p.tables e below F (T.setTop (mkF m pc Ls (St))) := by
  subst hp hz
  exact own_by (fun _ q => XS.sipush X.here hx rfl hd  q) k
theorem own_lconst (X : Stand p l e R s m args below meth c T locs cells slots) (hx : p.tables.exec = Jvm.exec) {F : State → Prop} {pc : Nat} {Ls : Array Slot} {St : List Value} {i : Fin 2} (hd : decode c.code pc = .ok (.lconst i, 1)) (z : Int64) (hz : Int64.ofNat i = z) (pc' : Nat) (hp : pc + 1 = pc') (k : own_Go p.tables e below F (T.setTop (mkF m pc' Ls (.long z :: St)))) : own_Go p.tables e below F (T.setTop (mkF m pc Ls (St))) := by
  subst hp hz
  exact own_by (fun _ q => XS.lconst X.here hx rfl hd  q) k
theorem own_aconst_null (X : Stand p l e R s m args below meth c T locs cells slots) (hx : p.tables.exec = Jvm.exec) {F : State → Prop} {pc : Nat} {Ls : Array Slot} {St : List Value}  (hd : decode c.code pc = .ok (.aconst_null, 1)) (pc' : Nat) (hp : pc + 1 = pc') (k : own_Go p.tables e below F (T.setTop (mkF m pc' Ls (.null :: St)))) : own_Go p.tables e below F (T.setTop (mkF m pc Ls (St))) := by
  subst hp
  exact own_by (fun _ q => XS.aconstNull X.here hx rfl hd  q) k
theorem own_iadd (X : Stand p l e R s m args below meth c T locs cells slots) (hx : p.tables.exec = Jvm.exec) {F : State → Prop} {pc : Nat} {Ls : Array Slot} {St : List Value} {x y : Int32} (hd : decode c.code pc = .ok (.iadd, 1)) (pc' : Nat) (hp : pc + 1 = pc') (k : own_Go p.tables e below F (T.setTop (mkF m pc' Ls (.int (x + y) :: St)))) : own_Go p.tables e below F (T.setTop (mkF m pc Ls (.int y :: .int x :: St))) := by
  subst hp
  exact own_by (fun _ q => XS.iadd X.here hx rfl hd rfl q) k
theorem own_isub (X : Stand p l e R s m args below meth c T locs cells slots) (hx : p.tables.exec = Jvm.exec) {F : State → Prop} {pc : Nat} {Ls : Array Slot} {St : List Value} {x y : Int32} (hd : decode c.code pc = .ok (.isub, 1)) (pc' : Nat) (hp : pc + 1 = pc') (k : own_Go p.tables e below F (T.setTop (mkF m pc' Ls (.int (x - y) :: St)))) : own_Go p.tables e below F (T.setTop (mkF m pc Ls (.int y :: .int x :: St))) := by
  subst hp
  exact own_by (fun _ q => XS.isub X.here hx rfl hd rfl q) k
theorem own_imul (X : Stand p l e R s m args below meth c T locs cells slots) (hx : p.tables.exec = Jvm.exec) {F : State → Prop} {pc : Nat} {Ls : Array Slot} {St : List Value} {x y : Int32} (hd : decode c.code pc = .ok (.imul, 1)) (pc' : Nat) (hp : pc + 1 = pc') (k : own_Go p.tables e below F (T.setTop (mkF m pc' Ls (.int (x * y) :: St)))) : own_Go p.tables e below F (T.setTop (mkF m pc Ls (.int y :: .int x :: St))) := by
  subst hp
  exact own_by (fun _ q => XS.imul X.here hx rfl hd rfl q) k
theorem own_iand (X : Stand p l e R s m args below meth c T locs cells slots) (hx : p.tables.exec = Jvm.exec) {F : State → Prop} {pc : Nat} {Ls : Array Slot} {St : List Value} {x y : Int32} (hd : decode c.code pc = .ok (.iand, 1)) (pc' : Nat) (hp : pc + 1 = pc') (k : own_Go p.tables e below F (T.setTop (mkF m pc' Ls (.int (x &&& y) :: St)))) : own_Go p.tables e below F (T.setTop (mkF m pc Ls (.int y :: .int x :: St))) := by
  subst hp
  exact own_by (fun _ q => XS.iand X.here hx rfl hd rfl q) k
theorem own_ior (X : Stand p l e R s m args below meth c T locs cells slots) (hx : p.tables.exec = Jvm.exec) {F : State → Prop} {pc : Nat} {Ls : Array Slot} {St : List Value} {x y : Int32} (hd : decode c.code pc = .ok (.ior, 1)) (pc' : Nat) (hp : pc + 1 = pc') (k : own_Go p.tables e below F (T.setTop (mkF m pc' Ls (.int (x ||| y) :: St)))) : own_Go p.tables e below F (T.setTop (mkF m pc Ls (.int y :: .int x :: St))) := by
  subst hp
  exact own_by (fun _ q => XS.ior X.here hx rfl hd rfl q) k
theorem own_ixor (X : Stand p l e R s m args below meth c T locs cells slots) (hx : p.tables.exec = Jvm.exec) {F : State → Prop} {pc : Nat} {Ls : Array Slot} {St : List Value} {x y : Int32} (hd : decode c.code pc = .ok (.ixor, 1)) (pc' : Nat) (hp : pc + 1 = pc') (k : own_Go p.tables e below F (T.setTop (mkF m pc' Ls (.int (x ^^^ y) :: St)))) : own_Go p.tables e below F (T.setTop (mkF m pc Ls (.int y :: .int x :: St))) := by
  subst hp
  exact own_by (fun _ q => XS.ixor X.here hx rfl hd rfl q) k
theorem own_ishl (X : Stand p l e R s m args below meth c T locs cells slots) (hx : p.tables.exec = Jvm.exec) {F : State → Prop} {pc : Nat} {Ls : Array Slot} {St : List Value} {x y : Int32} (hd : decode c.code pc = .ok (.ishl, 1)) (pc' : Nat) (hp : pc + 1 = pc') (k : own_Go p.tables e below F (T.setTop (mkF m pc' Ls (.int (x <<< (y &&& 31)) :: St)))) : own_Go p.tables e below F (T.setTop (mkF m pc Ls (.int y :: .int x :: St))) := by
  subst hp
  exact own_by (fun _ q => XS.ishl X.here hx rfl hd rfl q) k
theorem own_ishr (X : Stand p l e R s m args below meth c T locs cells slots) (hx : p.tables.exec = Jvm.exec) {F : State → Prop} {pc : Nat} {Ls : Array Slot} {St : List Value} {x y : Int32} (hd : decode c.code pc = .ok (.ishr, 1)) (pc' : Nat) (hp : pc + 1 = pc') (k : own_Go p.tables e below F (T.setTop (mkF m pc' Ls (.int (x >>> (y &&& 31)) :: St)))) : own_Go p.tables e below F (T.setTop (mkF m pc Ls (.int y :: .int x :: St))) := by
  subst hp
  exact own_by (fun _ q => XS.ishr X.here hx rfl hd rfl q) k
theorem own_iushr (X : Stand p l e R s m args below meth c T locs cells slots) (hx : p.tables.exec = Jvm.exec) {F : State → Prop} {pc : Nat} {Ls : Array Slot} {St : List Value} {x y : Int32} (hd : decode c.code pc = .ok (.iushr, 1)) (pc' : Nat) (hp : pc + 1 = pc') (k : own_Go p.tables e below F (T.setTop (mkF m pc' Ls (.int ((x.toUInt32 >>> (y &&& 31).toUInt32).toInt32) :: St)))) : own_Go p.tables e below F (T.setTop (mkF m pc Ls (.int y :: .int x :: St))) := by
  subst hp
  exact own_by (fun _ q => XS.iushr X.here hx rfl hd rfl q) k
theorem own_ladd (X : Stand p l e R s m args below meth c T locs cells slots) (hx : p.tables.exec = Jvm.exec) {F : State → Prop} {pc : Nat} {Ls : Array Slot} {St : List Value} {x y : Int64} (hd : decode c.code pc = .ok (.ladd, 1)) (pc' : Nat) (hp : pc + 1 = pc') (k : own_Go p.tables e below F (T.setTop (mkF m pc' Ls (.long (x + y) :: St)))) : own_Go p.tables e below F (T.setTop (mkF m pc Ls (.long y :: .long x :: St))) := by
  subst hp
  exact own_by (fun _ q => XS.ladd X.here hx rfl hd rfl q) k
theorem own_lsub (X : Stand p l e R s m args below meth c T locs cells slots) (hx : p.tables.exec = Jvm.exec) {F : State → Prop} {pc : Nat} {Ls : Array Slot} {St : List Value} {x y : Int64} (hd : decode c.code pc = .ok (.lsub, 1)) (pc' : Nat) (hp : pc + 1 = pc') (k : own_Go p.tables e below F (T.setTop (mkF m pc' Ls (.long (x - y) :: St)))) : own_Go p.tables e below F (T.setTop (mkF m pc Ls (.long y :: .long x :: St))) := by
  subst hp
  exact own_by (fun _ q => XS.lsub X.here hx rfl hd rfl q) k
theorem own_lmul (X : Stand p l e R s m args below meth c T locs cells slots) (hx : p.tables.exec = Jvm.exec) {F : State → Prop} {pc : Nat} {Ls : Array Slot} {St : List Value} {x y : Int64} (hd : decode c.code pc = .ok (.lmul, 1)) (pc' : Nat) (hp : pc + 1 = pc') (k : own_Go p.tables e below F (T.setTop (mkF m pc' Ls (.long (x * y) :: St)))) : own_Go p.tables e below F (T.setTop (mkF m pc Ls (.long y :: .long x :: St))) := by
  subst hp
  exact own_by (fun _ q => XS.lmul X.here hx rfl hd rfl q) k
theorem own_land (X : Stand p l e R s m args below meth c T locs cells slots) (hx : p.tables.exec = Jvm.exec) {F : State → Prop} {pc : Nat} {Ls : Array Slot} {St : List Value} {x y : Int64} (hd : decode c.code pc = .ok (.land, 1)) (pc' : Nat) (hp : pc + 1 = pc') (k : own_Go p.tables e below F (T.setTop (mkF m pc' Ls (.long (x &&& y) :: St)))) : own_Go p.tables e below F (T.setTop (mkF m pc Ls (.long y :: .long x :: St))) := by
  subst hp
  exact own_by (fun _ q => XS.land X.here hx rfl hd rfl q) k
theorem own_lor (X : Stand p l e R s m args below meth c T locs cells slots) (hx : p.tables.exec = Jvm.exec) {F : State → Prop} {pc : Nat} {Ls : Array Slot} {St : List Value} {x y : Int64} (hd : decode c.code pc = .ok (.lor, 1)) (pc' : Nat) (hp : pc + 1 = pc') (k : own_Go p.tables e below F (T.setTop (mkF m pc' Ls (.long (x ||| y) :: St)))) : own_Go p.tables e below F (T.setTop (mkF m pc Ls (.long y :: .long x :: St))) := by
  subst hp
  exact own_by (fun _ q => XS.lor X.here hx rfl hd rfl q) k
theorem own_lxor (X : Stand p l e R s m args below meth c T locs cells slots) (hx : p.tables.exec = Jvm.exec) {F : State → Prop} {pc : Nat} {Ls : Array Slot} {St : List Value} {x y : Int64} (hd : decode c.code pc = .ok (.lxor, 1)) (pc' : Nat) (hp : pc + 1 = pc') (k : own_Go p.tables e below F (T.setTop (mkF m pc' Ls (.long (x ^^^ y) :: St)))) : own_Go p.tables e below F (T.setTop (mkF m pc Ls (.long y :: .long x :: St))) := by
  subst hp
  exact own_by (fun _ q => XS.lxor X.here hx rfl hd rfl q) k
theorem own_lshl (X : Stand p l e R s m args below meth c T locs cells slots) (hx : p.tables.exec = Jvm.exec) {F : State → Prop} {pc : Nat} {Ls : Array Slot} {St : List Value} {x : Int64} {y : Int32} (hd : decode c.code pc = .ok (.lshl, 1)) (pc' : Nat) (hp : pc + 1 = pc') (k : own_Go p.tables e below F (T.setTop (mkF m pc' Ls (.long (x <<< (y &&& 0x3f).toInt64) :: St)))) : own_Go p.tables e below F (T.setTop (mkF m pc Ls (.int y :: .long x :: St))) := by
  subst hp
  exact own_by (fun _ q => XS.lshl X.here hx rfl hd rfl q) k
theorem own_lshr (X : Stand p l e R s m args below meth c T locs cells slots) (hx : p.tables.exec = Jvm.exec) {F : State → Prop} {pc : Nat} {Ls : Array Slot} {St : List Value} {x : Int64} {y : Int32} (hd : decode c.code pc = .ok (.lshr, 1)) (pc' : Nat) (hp : pc + 1 = pc') (k : own_Go p.tables e below F (T.setTop (mkF m pc' Ls (.long (x >>> (y &&& 0x3f).toInt64) :: St)))) : own_Go p.tables e below F (T.setTop (mkF m pc Ls (.int y :: .long x :: St))) := by
  subst hp
  exact own_by (fun _ q => XS.lshr X.here hx rfl hd rfl q) k
theorem own_lushr (X : Stand p l e R s m args below meth c T locs cells slots) (hx : p.tables.exec = Jvm.exec) {F : State → Prop} {pc : Nat} {Ls : Array Slot} {St : List Value} {x : Int64} {y : Int32} (hd : decode c.code pc = .ok (.lushr, 1)) (pc' : Nat) (hp : pc + 1 = pc') (k : own_Go p.tables e below F (T.setTop (mkF m pc' Ls (.long ((x.toUInt64 >>> (y &&& 0x3f).toInt64.toUInt64).toInt64) :: St)))) : own_Go p.tables e below F (T.setTop (mkF m pc Ls (.int y :: .long x :: St))) := by
  subst hp
  exact own_by (fun _ q => XS.lushr X.here hx rfl hd rfl q) k
theorem own_idiv (X : Stand p l e R s m args below meth c T locs cells slots) (hx : p.tables.exec = Jvm.exec) {F : State → Prop} {pc : Nat} {Ls : Array Slot} {St : List Value} {x y : Int32} (hd : decode c.code pc = .ok (.idiv, 1)) (hy : y ≠ 0) (pc' : Nat) (hp : pc + 1 = pc') (k : own_Go p.tables e below F (T.setTop (mkF m pc' Ls (.int (x / y) :: St)))) : own_Go p.tables e below F (T.setTop (mkF m pc Ls (.int y :: .int x :: St))) := by
  subst hp
  exact own_by (fun _ q => XS.idiv X.here hx rfl hd rfl hy q) k
theorem own_ineg (X : Stand p l e R s m args below meth c T locs cells slots) (hx : p.tables.exec = Jvm.exec) {F : State → Prop} {pc : Nat} {Ls : Array Slot} {St : List Value} {x : Int32} (hd : decode c.code pc = .ok (.ineg, 1)) (pc' : Nat) (hp : pc + 1 = pc') (k : own_Go p.tables e below F (T.setTop (mkF m pc' Ls (.int (-x) :: St)))) : own_Go p.tables e below F (T.setTop (mkF m pc Ls (.int x :: St))) := by
  subst hp
  exact own_by (fun _ q => XS.ineg X.here hx rfl hd rfl q) k
theorem own_i2l (X : Stand p l e R s m args below meth c T locs cells slots) (hx : p.tables.exec = Jvm.exec) {F : State → Prop} {pc : Nat} {Ls : Array Slot} {St : List Value} {x : Int32} (hd : decode c.code pc = .ok (.i2l, 1)) (pc' : Nat) (hp : pc + 1 = pc') (k : own_Go p.tables e below F (T.setTop (mkF m pc' Ls (.long (x.toInt64) :: St)))) : own_Go p.tables e below F (T.setTop (mkF m pc Ls (.int x :: St))) := by
  subst hp
  exact own_by (fun _ q => XS.i2l X.here hx rfl hd rfl q) k
theorem own_l2i (X : Stand p l e R s m args below meth c T locs cells slots) (hx : p.tables.exec = Jvm.exec) {F : State → Prop} {pc : Nat} {Ls : Array Slot} {St : List Value} {x : Int64} (hd : decode c.code pc = .ok (.l2i, 1)) (pc' : Nat) (hp : pc + 1 = pc') (k : own_Go p.tables e below F (T.setTop (mkF m pc' Ls (.int (x.toInt32) :: St)))) : own_Go p.tables e below F (T.setTop (mkF m pc Ls (.long x :: St))) := by
  subst hp
  exact own_by (fun _ q => XS.l2i X.here hx rfl hd rfl q) k
theorem own_i2b (X : Stand p l e R s m args below meth c T locs cells slots) (hx : p.tables.exec = Jvm.exec) {F : State → Prop} {pc : Nat} {Ls : Array Slot} {St : List Value} {x : Int32} (hd : decode c.code pc = .ok (.i2b, 1)) (pc' : Nat) (hp : pc + 1 = pc') (k : own_Go p.tables e below F (T.setTop (mkF m pc' Ls (.int (x.toInt8.toInt32) :: St)))) : own_Go p.tables e below F (T.setTop (mkF m pc Ls (.int x :: St))) := by
  subst hp
  exact own_by (fun _ q => XS.i2b X.here hx rfl hd rfl q) k
theorem own_i2c (X : Stand p l e R s m args below meth c T locs cells slots) (hx : p.tables.exec = Jvm.exec) {F : State → Prop} {pc : Nat} {Ls : Array Slot} {St : List Value} {x : Int32} (hd : decode c.code pc = .ok (.i2c, 1)) (pc' : Nat) (hp : pc + 1 = pc') (k : own_Go p.tables e below F (T.setTop (mkF m pc' Ls (.int (x.toUInt32.toUInt16.toUInt32.toInt32) :: St)))) : own_Go p.tables e below F (T.setTop (mkF m pc Ls (.int x :: St))) := by
  subst hp
  exact own_by (fun _ q => XS.i2c X.here hx rfl hd rfl q) k
theorem own_i2s (X : Stand p l e R s m args below meth c T locs cells slots) (hx : p.tables.exec = Jvm.exec) {F : State → Prop} {pc : Nat} {Ls : Array Slot} {St : List Value} {x : Int32} (hd : decode c.code pc = .ok (.i2s, 1)) (pc' : Nat) (hp : pc + 1 = pc') (k : own_Go p.tables e below F (T.setTop (mkF m pc' Ls (.int (x.toInt16.toInt32) :: St)))) : own_Go p.tables e below F (T.setTop (mkF m pc Ls (.int x :: St))) := by
  subst hp
  exact own_by (fun _ q => XS.i2s X.here hx rfl hd rfl q) k
theorem own_lcmp (X : Stand p l e R s m args below meth c T locs cells slots) (hx : p.tables.exec = Jvm.exec) {F : State → Prop} {pc : Nat} {Ls : Array Slot} {St : List Value} {x y : Int64} (hd : decode c.code pc = .ok (.lcmp, 1)) (pc' : Nat) (hp : pc + 1 = pc') (k : own_Go p.tables e below F (T.setTop (mkF m pc' Ls (.int (lcmpW x y) :: St)))) : own_Go p.tables e below F (T.setTop (mkF m pc Ls (.long y :: .long x :: St))) := by
  subst hp
  exact own_by (fun _ q => XS.lcmp X.here hx rfl hd rfl q) k
theorem own_iinc (X : Stand p l e R s m args below meth c T locs cells slots) (hx : p.tables.exec = Jvm.exec) {F : State → Prop} {pc : Nat} {Ls : Array Slot} {St : List Value} {i : Nat} {cst : Int} {x : Int32} (hd : decode c.code pc = .ok (.iinc i cst, 3)) (l' : Array Slot) (hl : Ls[i]? = some (.val (.int x))) (hl' : storeLocals Ls i (.int (x + Int32.ofInt cst)) = some l') (pc' : Nat) (hp : pc + 3 = pc') (k : own_Go p.tables e below F (T.setTop (mkF m pc' l' (St)))) : own_Go p.tables e below F (T.setTop (mkF m pc Ls (St))) := by
  subst hp
  exact own_by (fun _ q => XS.iinc X.here hx rfl hd hl hl' q) k
theorem own_dup (X : Stand p l e R s m args below meth c T locs cells slots) (hx : p.tables.exec = Jvm.exec) {F : State → Prop} {pc : Nat} {Ls : Array Slot} {St : List Value} {v : Value} (hd : decode c.code pc = .ok (.dup, 1)) (hc : v.category = 1) (pc' : Nat) (hp : pc + 1 = pc') (k : own_Go p.tables e below F (T.setTop (mkF m pc' Ls (v :: v :: St)))) : own_Go p.tables e below F (T.setTop (mkF m pc Ls (v :: St))) := by
  subst hp
  exact own_by (fun _ q => XS.dup X.here hx rfl hd rfl hc q) k
theorem own_pop (X : Stand p l e R s m args below meth c T locs cells slots) (hx : p.tables.exec = Jvm.exec) {F : State → Prop} {pc : Nat} {Ls : Array Slot} {St : List Value} {v : Value} (hd : decode c.code pc = .ok (.pop, 1)) (hc : v.category = 1) (pc' : Nat) (hp : pc + 1 = pc') (k : own_Go p.tables e below F (T.setTop (mkF m pc' Ls (St)))) : own_Go p.tables e below F (T.setTop (mkF m pc Ls (v :: St))) := by
  subst hp
  exact own_by (fun _ q => XS.pop X.here hx rfl hd rfl hc q) k
theorem own_dup_x1 (X : Stand p l e R s m args below meth c T locs cells slots) (hx : p.tables.exec = Jvm.exec) {F : State → Prop} {pc : Nat} {Ls : Array Slot} {St : List Value} {v w : Value} (hd : decode c.code pc = .ok (.dup_x1, 1)) (hc : v.category = 1) (hc' : w.category = 1) (pc' : Nat) (hp : pc + 1 = pc') (k : own_Go p.tables e below F (T.setTop (mkF m pc' Ls (v :: w :: v :: St)))) : own_Go p.tables e below F (T.setTop (mkF m pc Ls (v :: w :: St))) := by
  subst hp
  exact own_by (fun _ q => XS.dupX1 X.here hx rfl hd rfl hc hc' q) k
theorem own_goto (X : Stand p l e R s m args below meth c T locs cells slots) (hx : p.tables.exec = Jvm.exec) {F : State → Prop} {pc : Nat} {Ls : Array Slot} {St : List Value}  {o : Int} (hd : decode c.code pc = .ok (.goto o, 3)) (pc' : Nat) (ho : 0 ≤ (pc : Int) + o) (hp : ((pc : Int) + o).toNat = pc') (k : own_Go p.tables e below F (T.setTop (mkF m pc' Ls (St)))) : own_Go p.tables e below F (T.setTop (mkF m pc Ls (St))) :=
  own_by (fun _ q => XS.goto X.here hx rfl (pc0 := pc) rfl hd  ho hp q) k
theorem own_ifY (X : Stand p l e R s m args below meth c T locs cells slots) (hx : p.tables.exec = Jvm.exec) {F : State → Prop} {pc : Nat} {Ls : Array Slot} {St : List Value} {cd : ClassFile.Cond} {x : Int32} {o : Int} (hd : decode c.code pc = .ok (.ifCond cd o, 3)) (hc : ifCond.holds cd x = true) (pc' : Nat) (ho : 0 ≤ (pc : Int) + o) (hp : ((pc : Int) + o).toNat = pc') (k : own_Go p.tables e below F (T.setTop (mkF m pc' Ls (St)))) : own_Go p.tables e below F (T.setTop (mkF m pc Ls (.int x :: St))) :=
  own_by (fun _ q => XS.ifYes X.here hx rfl (pc0 := pc) rfl hd rfl hc ho hp q) k
theorem own_icmpY (X : Stand p l e R s m args below meth c T locs cells slots) (hx : p.tables.exec = Jvm.exec) {F : State → Prop} {pc : Nat} {Ls : Array Slot} {St : List Value} {cd : ClassFile.Cond} {x y : Int32} {o : Int} (hd : decode c.code pc = .ok (.if_icmp cd o, 3)) (hc : if_icmp.holds cd x y = true) (pc' : Nat) (ho : 0 ≤ (pc : Int) + o) (hp : ((pc : Int) + o).toNat = pc') (k : own_Go p.tables e below F (T.setTop (mkF m pc' Ls (St)))) : own_Go p.tables e below F (T.setTop (mkF m pc Ls (.int y :: .int x :: St))) :=
  own_by (fun _ q => XS.icmpYes X.here hx rfl (pc0 := pc) rfl hd rfl hc ho hp q) k
theorem own_ifnullY (X : Stand p l e R s m args below meth c T locs cells slots) (hx : p.tables.exec = Jvm.exec) {F : State → Prop} {pc : Nat} {Ls : Array Slot} {St : List Value}  {o : Int} (hd : decode c.code pc = .ok (.ifnull o, 3)) (pc' : Nat) (ho : 0 ≤ (pc : Int) + o) (hp : ((pc : Int) + o).toNat = pc') (k : own_Go p.tables e below F (T.setTop (mkF m pc' Ls (St)))) : own_Go p.tables e below F (T.setTop (mkF m pc Ls (.null :: St))) :=
  own_by (fun _ q => XS.ifnullYes X.here hx rfl (pc0 := pc) rfl hd rfl ho hp q) k
theorem own_ifnonnullY (X : Stand p l e R s m args below meth c T locs cells slots) (hx : p.tables.exec = Jvm.exec) {F : State → Prop} {pc : Nat} {Ls : Array Slot} {St : List Value} {b : Addr} {o : Int} (hd : decode c.code pc = .ok (.ifnonnull o, 3)) (pc' : Nat) (ho : 0 ≤ (pc : Int) + o) (hp : ((pc : Int) + o).toNat = pc') (k : own_Go p.tables e below F (T.setTop (mkF m pc' Ls (St)))) : own_Go p.tables e below F (T.setTop (mkF m pc Ls (.ref b :: St))) :=
  own_by (fun _ q => XS.ifnonnullYes X.here hx rfl (pc0 := pc) rfl hd rfl ho hp q) k
theorem own_ifN (X : Stand p l e R s m args below meth c T locs cells slots) (hx : p.tables.exec = Jvm.exec) {F : State → Prop} {pc : Nat} {Ls : Array Slot} {St : List Value} {o : Int} {cd : ClassFile.Cond} {x : Int32} (hd : decode c.code pc = .ok (.ifCond cd o, 3)) (hc : ifCond.holds cd x = false) (pc' : Nat) (hp : pc + 3 = pc') (k : own_Go p.tables e below F (T.setTop (mkF m pc' Ls (St)))) : own_Go p.tables e below F (T.setTop (mkF m pc Ls (.int x :: St))) := by
  subst hp
  exact own_by (fun _ q => XS.ifNo X.here hx rfl hd rfl hc q) k
theorem own_icmpN (X : Stand p l e R s m args below meth c T locs cells slots) (hx : p.tables.exec = Jvm.exec) {F : State → Prop} {pc : Nat} {Ls : Array Slot} {St : List Value} {o : Int} {cd : ClassFile.Cond} {x y : Int32} (hd : decode c.code pc = .ok (.if_icmp cd o, 3)) (hc : if_icmp.holds cd x y = false) (pc' : Nat) (hp : pc + 3 = pc') (k : own_Go p.tables e below F (T.setTop (mkF m pc' Ls (St)))) : own_Go p.tables e below F (T.setTop (mkF m pc Ls (.int y :: .int x :: St))) := by
  subst hp
  exact own_by (fun _ q => XS.icmpNo X.here hx rfl hd rfl hc q) k
theorem own_ifnullN (X : Stand p l e R s m args below meth c T locs cells slots) (hx : p.tables.exec = Jvm.exec) {F : State → Prop} {pc : Nat} {Ls : Array Slot} {St : List Value} {o : Int} {b : Addr} (hd : decode c.code pc = .ok (.ifnull o, 3)) (pc' : Nat) (hp : pc + 3 = pc') (k : own_Go p.tables e below F (T.setTop (mkF m pc' Ls (St)))) : own_Go p.tables e below F (T.setTop (mkF m pc Ls (.ref b :: St))) := by
  subst hp
  exact own_by (fun _ q => XS.ifnullNo X.here hx rfl hd rfl q) k
theorem own_ifnonnullN (X : Stand p l e R s m args below meth c T locs cells slots) (hx : p.tables.exec = Jvm.exec) {F : State → Prop} {pc : Nat} {Ls : Array Slot} {St : List Value} {o : Int} (hd : decode c.code pc = .ok (.ifnonnull o, 3)) (pc' : Nat) (hp : pc + 3 = pc') (k : own_Go p.tables e below F (T.setTop (mkF m pc' Ls (St)))) : own_Go p.tables e below F (T.setTop (mkF m pc Ls (.null :: St))) := by
  subst hp
  exact own_by (fun _ q => XS.ifnonnullNo X.here hx rfl hd rfl q) k
theorem own_irem (X : Stand p l e R s m args below meth c T locs cells slots) (hx : p.tables.exec = Jvm.exec) {F : State → Prop} {pc : Nat} {Ls : Array Slot} {St : List Value} {x y : Int32} (hd : decode c.code pc = .ok (.irem, 1)) (hy : y ≠ 0) (pc' : Nat) (hp : pc + 1 = pc') (k : own_Go p.tables e below F (T.setTop (mkF m pc' Ls (.int (x % y) :: St)))) : own_Go p.tables e below F (T.setTop (mkF m pc Ls (.int y :: .int x :: St))) := by
  subst hp
  exact own_by (fun _ q => iremM X hx rfl hd rfl hy q) k
theorem own_acmp (X : Stand p l e R s m args below meth c T locs cells slots) (hx : p.tables.exec = Jvm.exec) {F : State → Prop} {pc : Nat} {Ls : Array Slot} {St : List Value} {cd : ACond} {x y : Value} {o : Int} (same : Bool) (hd : decode c.code pc = .ok (.if_acmp cd o, 3)) (h1 : x.isRef = true) (h2 : y.isRef = true) (hq : decide (x = y) = same) (pc' : Nat) (ho : 0 ≤ (pc : Int) + o) (hp : pc' = if acV cd same = true then ((pc : Int) + o).toNat else pc + 3) (k : own_Go p.tables e below F (T.setTop (mkF m pc' Ls St))) : own_Go p.tables e below F (T.setTop (mkF m pc Ls (y :: x :: St))) :=
  own_by (fun _ q => Jvm.RoadKit.acmp (g := mkF m pc Ls (y :: x :: St)) X hx rfl h1 h2 (pc0 := pc) rfl hd rfl hq ho hp q) k
theorem own_ldc (X : Stand p l e R s m args below meth c T locs cells slots) (hx : p.tables.exec = Jvm.exec) {F : State → Prop} {pc : Nat} {Ls : Array Slot} {St : List Value} (hZ : Z.Warmed39 s.vm) {own : String} {i : Nat} {z : Int32} (hown : s.vm.findClass own = some m.cls) (w : (Cond.constant own i z).before a0 Z = true) (hd : decode c.code pc = .ok (.ldc i, 2)) (pc' : Nat) (hp : pc + 2 = pc') (k : own_Go p.tables e below F (T.setTop (mkF m pc' Ls (.int z :: St)))) : own_Go p.tables e below F (T.setTop (mkF m pc Ls St)) := by
  subst hp
  exact own_by (fun _ q => X.ldcInt hx hown (mvT hZ w) (g := mkF m pc Ls St) rfl hd _ q) k
theorem own_getS (X : Stand p l e R s m args below meth c T locs cells slots) (hx : p.tables.exec = Jvm.exec) {F : State → Prop} {pc : Nat} {Ls : Array Slot} {St : List Value} (hZ : Z.Warmed39 s.vm) {own R0 O n d host : String} {i : Nat} (hown : s.vm.findClass own = some m.cls) (w : (Cond.fieldLink own i R0 n d).before a0 Z = true ∨ (Cond.fieldLinkNest own i R0 n d host).before a0 Z = true) (via : Via Z R0 O n d) (eT : T.heap = h) {v : Value} (S : Sta Z h O n d v) (hd : decode c.code pc = .ok (.getstatic i, 3)) (pc' : Nat) (hp : pc + 3 = pc')
    (k : ∀ T', Stand p l e R s m args below meth c T' locs cells slots → T'.heap = h → own_Go p.tables e below F (T'.setTop (mkF m pc' Ls (v :: St)))) : own_Go p.tables e below F (T.setTop (mkF m pc Ls St)) := by
  subst hp
  obtain ⟨T', X', e', st⟩ := getS2 X hx hZ hown w via eT S (g := mkF m pc Ls St) rfl hd
  exact own_by st (k T' X' e')
theorem own_getF (X : Stand p l e R s m args below meth c T locs cells slots) (hx : p.tables.exec = Jvm.exec) {F : State → Prop} {pc : Nat} {Ls : Array Slot} {St : List Value} (hZ : Z.Warmed39 s.vm) {own R0 O n d host : String} {i : Nat} (hown : s.vm.findClass own = some m.cls) (w : (Cond.fieldLink own i R0 n d).before a0 Z = true ∨ (Cond.fieldLinkNest own i R0 n d host).before a0 Z = true) (via : Via Z R0 O n d) (eT : T.heap = h) {a : Addr} {v : Value} (S : Fld Z h a O n d v) (hd : decode c.code pc = .ok (.getfield i, 3)) (pc' : Nat) (hp : pc + 3 = pc')
    (k : ∀ T', Stand p l e R s m args below meth c T' locs cells slots → T'.heap = h → own_Go p.tables e below F (T'.setTop (mkF m pc' Ls (v :: St)))) : own_Go p.tables e below F (T.setTop (mkF m pc Ls (.ref a :: St))) := by
  subst hp
  obtain ⟨T', X', e', st⟩ := getF X hx hZ hown w via eT S (g := mkF m pc Ls (.ref a :: St)) rfl rfl hd
  exact own_by st (k T' X' e')
theorem own_lsw (X : Stand p l e R s m args below meth c T locs cells slots) (hx : p.tables.exec = Jvm.exec) {F : State → Prop} {pc : Nat} {Ls : Array Slot} {St : List Value} {dflt : Int} {pairs : Array (Int × Int)} {len : Nat} {i : Int32} (o : Int) (hd : decode c.code pc = .ok (.lookupswitch dflt pairs, len)) (hoff : lookupswitch.offset pairs.toList dflt i.toInt = o) (hso : (pairs.toList.zip pairs.toList.tail).all (fun q => decide (q.1.1 < q.2.1)) = true) (pc' : Nat) (ho : 0 ≤ (pc : Int) + o) (hp : ((pc : Int) + o).toNat = pc') (k : own_Go p.tables e below F (T.setTop (mkF m pc' Ls St))) : own_Go p.tables e below F (T.setTop (mkF m pc Ls (.int i :: St))) :=
  own_by (fun _ q => own_lsw0 X.here hx rfl (pc0 := pc) rfl hd rfl hoff hso ho hp q) k
theorem own_tsw (X : Stand p l e R s m args below meth c T locs cells slots) (hx : p.tables.exec = Jvm.exec) {F : State → Prop} {pc : Nat} {Ls : Array Slot} {St : List Value} {dflt lo hi : Int} {offs : Array Int} {len : Nat} {i : Int32} (o : Int) (hd : decode c.code pc = .ok (.tableswitch dflt lo hi offs, len)) (hin : ¬ (i.toInt < lo ∨ i.toInt > hi)) (hoff : offs[(i.toInt - lo).toNat]? = some o) (pc' : Nat) (ho : 0 ≤ (pc : Int) + o) (hp : ((pc : Int) + o).toNat = pc') (k : own_Go p.tables e below F (T.setTop (mkF m pc' Ls St))) : own_Go p.tables e below F (T.setTop (mkF m pc Ls (.int i :: St))) :=
  own_by (fun _ q => XS.tswIn X.here hx rfl (pc0 := pc) rfl hd rfl hin hoff ho hp q) k
theorem own_tswD (X : Stand p l e R s m args below meth c T locs cells slots) (hx : p.tables.exec = Jvm.exec) {F : State → Prop} {pc : Nat} {Ls : Array Slot} {St : List Value} {dflt lo hi : Int} {offs : Array Int} {len : Nat} {i : Int32} (hd : decode c.code pc = .ok (.tableswitch dflt lo hi offs, len)) (hout : i.toInt < lo ∨ i.toInt > hi) (pc' : Nat) (ho : 0 ≤ (pc : Int) + dflt) (hp : ((pc : Int) + dflt).toNat = pc') (k : own_Go p.tables e below F (T.setTop (mkF m pc' Ls St))) : own_Go p.tables e below F (T.setTop (mkF m pc Ls (.int i :: St))) :=
  own_by (fun _ q => XS.tswOut X.here hx rfl (pc0 := pc) rfl hd rfl hout ho hp q) k

theorem own_topI {F : State → Prop} {pc : Nat} {Ls : Array Slot} {St : List Value} {x : Int32} (z : Int32) (hz : x = z) (k : own_Go p.tables e below F (T.setTop (mkF m pc Ls (.int z :: St)))) : own_Go p.tables e below F (T.setTop (mkF m pc Ls (.int x :: St))) := by
  subst hz
  exact k
theorem own_topJ {F : State → Prop} {pc : Nat} {Ls : Array Slot} {St : List Value} {x : Int64} (z : Int64) (hz : x = z) (k : own_Go p.tables e below F (T.setTop (mkF m pc Ls (.long z :: St)))) : own_Go p.tables e below F (T.setTop (mkF m pc Ls (.long x :: St))) := by
  subst hz
  exact k
theorem own_lcmp0 (x : Int64) : lcmpW x x = 0 := by simp [lcmpW]
theorem own_lceq (x y : Int64) : lcmpW x y = (0 : Int32) ↔ x = y := by rw [lcW]; exact lc_eq x y
theorem own_iincC (X : Stand p l e R s m args below meth c T locs cells slots) (hx : p.tables.exec = Jvm.exec) {F : State → Prop} {pc : Nat} {Ls : Array Slot} {St : List Value} {i : Nat} {cst : Int} {x : Int32} (hd : decode c.code pc = .ok (.iinc i cst, 3)) (l' : Array Slot) (hl : Ls[i]? = some (.val (.int x))) (z : Int32) (hz : x + Int32.ofInt cst = z) (hl' : storeLocals Ls i (.int z) = some l') (pc' : Nat) (hp : pc + 3 = pc') (k : own_Go p.tables e below F (T.setTop (mkF m pc' l' St))) : own_Go p.tables e below F (T.setTop (mkF m pc Ls St)) := by
  subst hz
  exact own_iinc X hx hd l' hl hl' pc' hp k
/-- a body's contract: y, entered with 'as' over the heap h, ends, and Q holds of what it returns, of the heap and of the places written -/
abbrev own_Met (l : Launch) (y : MethodName) (bytes : ByteArray) (ml : Nat) (ret : Option FieldType) (ws : List Cond) (rm : Room) (Z : State) (as : Array Value) (h : Heap) (Q : Option Value → Heap → List Loc → Prop) : Prop :=
  MetFree l y (head1 (Jvm.Cond.code y bytes ml ret :: ws) rm) (fun a U => a = as ∧ Z.Warmed39 U.vm ∧ U.heap = h) (fun _ _ _ _ _ => True) (fun _ U o U' => ∃ v L, o = .returned v ∧ Q v U'.heap L ∧ FrameEnd U o U' L rm.cells rm.slots)
theorem own_met {y : MethodName} {bytes : ByteArray} {ml : Nat} {ret : Option FieldType} {ws : List Cond} {rm : Room} {as : Array Value} {Q : Option Value → Heap → List Loc → Prop} (hp : plainFor y = true)
    (body : ∀ (p : Program) (e : Env) (s : State) (m : MethodId) (below : List Frame) (meth : Method) (c : Code) (T0 : State), p.tables.exec = Jvm.exec → c.code = bytes → c.maxLocals = ml → s.vm.findClass y.cls = some m.cls → meth.sig.returnType = ret → meth.locks = false → meth.name = y.name → Z.Warmed39 s.vm →
      Stand p l e rm s m as below meth c T0 [] 0 0 → T0.heap = h → own_Go p.tables e below (own_Fin s below Q rm.cells rm.slots) (T0.setTop (entryFrame m as ml))) : own_Met l y bytes ml ret ws rm Z as h Q := by
  refine MetFree.of_bodySF hp hisR ?_
  intro p e s m args below meth c s₁ Bd hml0 hP hK
  obtain ⟨rfl, hZ, hh⟩ := hP
  have e0 : s₁.heap = h := by rw [← hh, Bd.state]; rfl
  obtain ⟨t, h1, o, h2, h3, h4⟩ := body p e s m below meth c s₁ Bd.exec Bd.bytes hml0 (findClass_of_methodNamed Bd.named) Bd.returns (BodyLoose.notSynchronized Bd) (name_of_methodNamed Bd.named Bd.method).1 hZ (Stand.of_body Bd) e0
  exact ⟨t, o, h1, h2, h3, h4⟩
theorem own_callS (X : Stand p l e R s m args below meth c T locs cells slots) (hx : p.tables.exec = Jvm.exec) (hZ : Z.Warmed39 s.vm) {own : String} {index : Nat} {y : MethodName} {bytes : ByteArray} {maxL : Nat} {ret : Option FieldType} {rm : Room} (hown : s.vm.findClass own = some m.cls)
    (w1 : (Cond.methodLink own index y).before a0 Z = true) (w2 : (Cond.static y).before a0 Z = true) (w3 : (Cond.initialized y.cls).before a0 Z = true) (w4 : (Cond.code y bytes maxL ret).before a0 Z = true) (hy : y.cls ≠ "java/lang/invoke/MethodHandle" ∧ y.cls ≠ "java/lang/invoke/VarHandle")
    {Q : Option Value → Heap → List Loc → Prop} (argsL rest : List Value) (W : Nat) (hM : own_Met l y bytes maxL ret [] rm Z argsL.toArray h Q) (hf : rm.frames + 1 ≤ R.frames) (hl : W + (maxL + 11) + rm.locals ≤ R.locals) (eT : T.heap = h) {pc : Nat} {Ls : Array Slot} (hsize : Ls.size = c.maxLocals)
    (hlen : ∀ sig, parseMethodDescriptor y.desc = some sig → argsL.length = sig.parameters.length) (hW : 2 * 0 + (rest.map fun v => v.category).sum ≤ W) (hd : decode c.code pc = .ok (.invokestatic index, 3)) (hC : cells + rm.cells ≤ R.cells) (hN : slots + rm.slots ≤ R.slots) :
    ∃ (v : Option Value) (T' : State) (L : List Loc), Stand p l e R s m args below meth c T' (locs ++ L) (cells + rm.cells) (slots + rm.slots) ∧ Q v T'.heap L ∧ ∀ target, Steps p.tables e below (T'.setTop (mkF m (pc + 3) Ls (v.toList ++ rest))) target → Steps p.tables e below (T.setTop (mkF m pc Ls (argsL.reverse ++ rest))) target := by
  obtain ⟨v, _, ⟨T', L', k', n'⟩, -, X', ⟨L, hQ, h1, h2, h3⟩, st⟩ := Jvm.LawKit.callS X hx (y := y) hown (mvT hZ w1) (mvT hZ w2) (mvT hZ w3) (mvT hZ w4) hy (backOf (W := W) hM hZ w4 w3 hf hl) (g := mkF m pc Ls (argsL.reverse ++ rest)) rfl hsize (argsL := argsL) (rest := rest) hlen rfl hW hd (fun _ _ => ⟨rfl, eT, hC, hN⟩)
  dsimp only [Pt.U, Pt.locs, Pt.cells, Pt.slots] at X' h1 h2 h3 st hQ
  subst h1 h2 h3
  exact ⟨v, T', L, X', hQ, st⟩
theorem own_callV (X : Stand p l e R s m args below meth c T locs cells slots) (hx : p.tables.exec = Jvm.exec) (hZ : Z.Warmed39 s.vm) {own C : String} {index : Nat} {y z : MethodName} {bytes : ByteArray} {maxL : Nat} {ret : Option FieldType} {rm : Room} (hown : s.vm.findClass own = some m.cls)
    (w1 : (Cond.methodLink own index y).before a0 Z = true) (w2 : (Cond.declares y).before a0 Z = true) (hnf : NotFace s y) (w3 : (Cond.selects C y z).before a0 Z = true) (w4 : (Cond.instanceMethod z).before a0 Z = true) (w5 : (Cond.initialized z.cls).before a0 Z = true) (w6 : (Cond.code z bytes maxL ret).before a0 Z = true) (hy : y.cls ≠ "java/lang/invoke/MethodHandle" ∧ y.cls ≠ "java/lang/invoke/VarHandle")
    {Q : Option Value → Heap → List Loc → Prop} (b : Addr) (argsL rest : List Value) (W : Nat) (hM : own_Met l z bytes maxL ret [] rm Z (.ref b :: argsL).toArray h Q) (hf : rm.frames + 1 ≤ R.frames) (hl : W + (maxL + 11) + rm.locals ≤ R.locals) (eT : T.heap = h) (E : Exa Z h b C) {pc : Nat} {Ls : Array Slot} (hsize : Ls.size = c.maxLocals)
    (hlen : ∀ sig, parseMethodDescriptor y.desc = some sig → argsL.length = sig.parameters.length) (hW : 2 * 0 + (rest.map fun v => v.category).sum ≤ W) (hd : decode c.code pc = .ok (.invokevirtual index, 3)) (hC : cells + rm.cells ≤ R.cells) (hN : slots + rm.slots ≤ R.slots) :
    ∃ (v : Option Value) (T' : State) (L : List Loc), Stand p l e R s m args below meth c T' (locs ++ L) (cells + rm.cells) (slots + rm.slots) ∧ Q v T'.heap L ∧ ∀ target, Steps p.tables e below (T'.setTop (mkF m (pc + 3) Ls (v.toList ++ rest))) target → Steps p.tables e below (T.setTop (mkF m pc Ls (argsL.reverse ++ .ref b :: rest))) target := by
  obtain ⟨cq, kq, qa, qb, qc⟩ := isOf hZ eT E
  obtain ⟨v, _, ⟨T', L', k', n'⟩, -, X', ⟨L, hQ, h1, h2, h3⟩, st⟩ := X.virtualBack hx (y := y) (z := z) hown (mvT hZ w1) (mvT hZ w2) hnf (mvT hZ w3) (mvT hZ w4) hy (backOf (W := W) hM hZ w6 w5 hf hl) qa qc (g := mkF m pc Ls (argsL.reverse ++ .ref b :: rest)) rfl hsize (Steps.refl _) (argsL := argsL) (rest := rest) hlen rfl hW hd (fun _ _ => ⟨rfl, eT, hC, hN⟩)
  dsimp only [Pt.U, Pt.locs, Pt.cells, Pt.slots] at X' h1 h2 h3 st hQ
  subst h1 h2 h3
  exact ⟨v, T', L, X', hQ, fun t k => st.trans k⟩
theorem own_callU (X : Stand p l e R s m args below meth c T locs cells slots) (hx : p.tables.exec = Jvm.exec) (hZ : Z.Warmed39 s.vm) {own C owner : String} {index : Nat} {x z : MethodName} {bytes : ByteArray} {maxL : Nat} {ret : Option FieldType} {rm : Room} (hown : s.vm.findClass own = some m.cls)
    (w1 : (Cond.methodLink own index x).before a0 Z = true) (w2 : (Cond.sameMethod x.cls owner x.name x.desc).before a0 Z = true) (w2' : (Cond.declares ⟨owner, x.name, x.desc⟩).before a0 Z = true) (hy : owner ≠ "java/lang/invoke/MethodHandle" ∧ owner ≠ "java/lang/invoke/VarHandle") (w3 : (Cond.selects C x z).before a0 Z = true) (w4 : (Cond.instanceMethod z).before a0 Z = true) (w5 : (Cond.initialized z.cls).before a0 Z = true) (w6 : (Cond.code z bytes maxL ret).before a0 Z = true)
    {Q : Option Value → Heap → List Loc → Prop} (b : Addr) (argsL rest : List Value) (W : Nat) (hM : own_Met l z bytes maxL ret [] rm Z (.ref b :: argsL).toArray h Q) (hf : rm.frames + 1 ≤ R.frames) (hl : W + (maxL + 11) + rm.locals ≤ R.locals) (eT : T.heap = h) (E : Exa Z h b C) {pc : Nat} {Ls : Array Slot} (hsize : Ls.size = c.maxLocals)
    (hlen : ∀ sig, parseMethodDescriptor x.desc = some sig → argsL.length = sig.parameters.length) (hW : 2 * 0 + (rest.map fun v => v.category).sum ≤ W) (hd : decode c.code pc = .ok (.invokevirtual index, 3)) (hC : cells + rm.cells ≤ R.cells) (hN : slots + rm.slots ≤ R.slots) :
    ∃ (v : Option Value) (T' : State) (L : List Loc), Stand p l e R s m args below meth c T' (locs ++ L) (cells + rm.cells) (slots + rm.slots) ∧ Q v T'.heap L ∧ ∀ target, Steps p.tables e below (T'.setTop (mkF m (pc + 3) Ls (v.toList ++ rest))) target → Steps p.tables e below (T.setTop (mkF m pc Ls (argsL.reverse ++ .ref b :: rest))) target := by
  obtain ⟨cq, kq, qa, qb, qc⟩ := isOf hZ eT E
  obtain ⟨v, _, ⟨T', L', k', n'⟩, -, X', ⟨L, hQ, h1, h2, h3⟩, st⟩ := X.virtualBackUp hx (x := x) (y := z) (owner := owner) hown (mvT hZ w1) (mvT hZ w2) (mvT hZ w2') hy (mvT hZ w3) (mvT hZ w4) (backOf (W := W) hM hZ w6 w5 hf hl) qa qc (g := mkF m pc Ls (argsL.reverse ++ .ref b :: rest)) rfl hsize (Steps.refl _) (argsL := argsL) (rest := rest) hlen rfl hW hd (fun _ _ => ⟨rfl, eT, hC, hN⟩)
  dsimp only [Pt.U, Pt.locs, Pt.cells, Pt.slots] at X' h1 h2 h3 st hQ
  subst h1 h2 h3
  exact ⟨v, T', L, X', hQ, fun t k => st.trans k⟩
theorem own_callN (X : Stand p l e R s m args below meth c T locs cells slots) (hx : p.tables.exec = Jvm.exec) (hZ : Z.Warmed39 s.vm) {own : String} {index : Nat} {y : MethodName} {bytes : ByteArray} {maxL : Nat} {rm : Room} (hy1 : y.name = "<init>") (hown : s.vm.findClass own = some m.cls)
    (w1 : (Cond.methodLink own index y).before a0 Z = true) (w4 : (Cond.instanceMethod y).before a0 Z = true) (w5 : (Cond.initialized y.cls).before a0 Z = true) (w6 : (Cond.code y bytes maxL none).before a0 Z = true) (hy : y.cls ≠ "java/lang/invoke/MethodHandle" ∧ y.cls ≠ "java/lang/invoke/VarHandle")
    {Q : Option Value → Heap → List Loc → Prop} (b : Addr) (argsL rest : List Value) (W : Nat) (hM : own_Met l y bytes maxL none [] rm Z (.ref b :: argsL).toArray h Q) (hf : rm.frames + 1 ≤ R.frames) (hl : W + (maxL + 11) + rm.locals ≤ R.locals) (eT : T.heap = h) {pc : Nat} {Ls : Array Slot} (hsize : Ls.size = c.maxLocals)
    (hlen : ∀ sig, parseMethodDescriptor y.desc = some sig → argsL.length = sig.parameters.length) (hW : 2 * 0 + (rest.map fun v => v.category).sum ≤ W) (hd : decode c.code pc = .ok (.invokespecial index, 3)) (hC : cells + rm.cells ≤ R.cells) (hN : slots + rm.slots ≤ R.slots) :
    ∃ (v : Option Value) (T' : State) (L : List Loc), Stand p l e R s m args below meth c T' (locs ++ L) (cells + rm.cells) (slots + rm.slots) ∧ Q v T'.heap L ∧ ∀ target, Steps p.tables e below (T'.setTop (mkF m (pc + 3) Ls (v.toList ++ rest))) target → Steps p.tables e below (T.setTop (mkF m pc Ls (argsL.reverse ++ .ref b :: rest))) target := by
  obtain ⟨v, _, ⟨T', L', k', n'⟩, -, X', ⟨L, hQ, h1, h2, h3⟩, st⟩ := X.specialBack hx (y := y) hy1 hown (mvT hZ w1) (mvT hZ w4) (mvT hZ w6) hy (backOf (W := W) hM hZ w6 w5 hf hl) (g := mkF m pc Ls (argsL.reverse ++ .ref b :: rest)) rfl hsize (Steps.refl _) (a := b) (argsL := argsL) (rest := rest) hlen rfl hW hd (fun _ _ => ⟨rfl, eT, hC, hN⟩)
  dsimp only [Pt.U, Pt.locs, Pt.cells, Pt.slots] at X' h1 h2 h3 st hQ
  subst h1 h2 h3
  exact ⟨v, T', L, X', hQ, fun t k => st.trans k⟩
abbrev own_HW (Z : State) (a0 : Array Value) : Prop := ∀ d ∈ tables_1, d.before a0 Z = true
theorem own_w {a0 : Array Value} {Z : State} (hw : ∀ d ∈ tables_1, d.before a0 Z = true) (i : Nat) {d : Jvm.Cond} (q : tables_1[i]? = some d) : d.before a0 Z = true := hw _ (List.mem_of_getElem? q)
/-- a body that writes nothing and makes nothing -/
def own_R (r : Option Value) (h0 : Heap) (v : Option Value) (h : Heap) (L : List Loc) : Prop := v = r ∧ h = h0 ∧ L = []
theorem own_same {rm : Room} {T' : State} {L : List Loc} (hc : rm.cells = 0) (hs : rm.slots = 0) (X : Stand p l e R s m args below meth c T' (locs ++ L) (cells + rm.cells) (slots + rm.slots)) (q : L = []) : Stand p l e R s m args below meth c T' locs cells slots := by
  subst q
  rw [hc, hs, List.append_nil] at X
  exact X
theorem own_pureS (X : Stand p l e R s m args below meth c T locs cells slots) (hx : p.tables.exec = Jvm.exec) {F : State → Prop} (hZ : Z.Warmed39 s.vm) {own : String} {index : Nat} {y : MethodName} {bytes : ByteArray} {maxL : Nat} {ret : Option FieldType} {rm : Room} (hown : s.vm.findClass own = some m.cls)
    (w1 : (Cond.methodLink own index y).before a0 Z = true) (w2 : (Cond.static y).before a0 Z = true) (w3 : (Cond.initialized y.cls).before a0 Z = true) (w4 : (Cond.code y bytes maxL ret).before a0 Z = true) (hy : y.cls ≠ "java/lang/invoke/MethodHandle" ∧ y.cls ≠ "java/lang/invoke/VarHandle")
    (argsL rest : List Value) (W : Nat) {r : Value} (hM : own_Met l y bytes maxL ret [] rm Z argsL.toArray h (own_R (some r) h)) (hf : rm.frames + 1 ≤ R.frames) (hl : W + (maxL + 11) + rm.locals ≤ R.locals) (hc0 : rm.cells = 0) (hs0 : rm.slots = 0) (eT : T.heap = h) {pc : Nat} {Ls : Array Slot} (hsize : Ls.size = c.maxLocals)
    (hlen : ∀ sig, parseMethodDescriptor y.desc = some sig → argsL.length = sig.parameters.length) (hW : 2 * 0 + (rest.map fun v => v.category).sum ≤ W) (hd : decode c.code pc = .ok (.invokestatic index, 3)) (pc' : Nat) (hp : pc + 3 = pc') {St : List Value} (hs : St = argsL.reverse ++ rest) (hC : cells ≤ R.cells) (hN : slots ≤ R.slots)
    (k : ∀ T', Stand p l e R s m args below meth c T' locs cells slots → T'.heap = h → own_Go p.tables e below F (T'.setTop (mkF m pc' Ls (r :: rest)))) : own_Go p.tables e below F (T.setTop (mkF m pc Ls St)) := by
  subst hp hs
  obtain ⟨v, T', L, X', ⟨q1, q2, q3⟩, st⟩ := own_callS X hx hZ hown w1 w2 w3 w4 hy argsL rest W hM hf hl eT hsize hlen hW hd (by rw [hc0]; exact hC) (by rw [hs0]; exact hN)
  subst q1
  exact own_by st (k T' (own_same hc0 hs0 X' q3) q2)
theorem own_pureV (X : Stand p l e R s m args below meth c T locs cells slots) (hx : p.tables.exec = Jvm.exec) {F : State → Prop} (hZ : Z.Warmed39 s.vm) {own C : String} {index : Nat} {y z : MethodName} {bytes : ByteArray} {maxL : Nat} {ret : Option FieldType} {rm : Room} (hown : s.vm.findClass own = some m.cls)
    (w1 : (Cond.methodLink own index y).before a0 Z = true) (w2 : (Cond.declares y).before a0 Z = true) (hnf : NotFace s y) (w3 : (Cond.selects C y z).before a0 Z = true) (w4 : (Cond.instanceMethod z).before a0 Z = true) (w5 : (Cond.initialized z.cls).before a0 Z = true) (w6 : (Cond.code z bytes maxL ret).before a0 Z = true) (hy : y.cls ≠ "java/lang/invoke/MethodHandle" ∧ y.cls ≠ "java/lang/invoke/VarHandle")
    (b : Addr) (argsL rest : List Value) (W : Nat) {r : Value} (hM : own_Met l z bytes maxL ret [] rm Z (.ref b :: argsL).toArray h (own_R (some r) h)) (hf : rm.frames + 1 ≤ R.frames) (hl : W + (maxL + 11) + rm.locals ≤ R.locals) (hc0 : rm.cells = 0) (hs0 : rm.slots = 0) (eT : T.heap = h) (E : Exa Z h b C) {pc : Nat} {Ls : Array Slot} (hsize : Ls.size = c.maxLocals)
    (hlen : ∀ sig, parseMethodDescriptor y.desc = some sig → argsL.length = sig.parameters.length) (hW : 2 * 0 + (rest.map fun v => v.category).sum ≤ W) (hd : decode c.code pc = .ok (.invokevirtual index, 3)) (pc' : Nat) (hp : pc + 3 = pc') {St : List Value} (hs : St = argsL.reverse ++ .ref b :: rest) (hC : cells ≤ R.cells) (hN : slots ≤ R.slots)
    (k : ∀ T', Stand p l e R s m args below meth c T' locs cells slots → T'.heap = h → own_Go p.tables e below F (T'.setTop (mkF m pc' Ls (r :: rest)))) : own_Go p.tables e below F (T.setTop (mkF m pc Ls St)) := by
  subst hp hs
  obtain ⟨v, T', L, X', ⟨q1, q2, q3⟩, st⟩ := own_callV X hx hZ hown w1 w2 hnf w3 w4 w5 w6 hy b argsL rest W hM hf hl eT E hsize hlen hW hd (by rw [hc0]; exact hC) (by rw [hs0]; exact hN)
  subst q1
  exact own_by st (k T' (own_same hc0 hs0 X' q3) q2)
theorem own_pureU (X : Stand p l e R s m args below meth c T locs cells slots) (hx : p.tables.exec = Jvm.exec) {F : State → Prop} (hZ : Z.Warmed39 s.vm) {own C owner : String} {index : Nat} {x z : MethodName} {bytes : ByteArray} {maxL : Nat} {ret : Option FieldType} {rm : Room} (hown : s.vm.findClass own = some m.cls)
    (w1 : (Cond.methodLink own index x).before a0 Z = true) (w2 : (Cond.sameMethod x.cls owner x.name x.desc).before a0 Z = true) (w2' : (Cond.declares ⟨owner, x.name, x.desc⟩).before a0 Z = true) (hy : owner ≠ "java/lang/invoke/MethodHandle" ∧ owner ≠ "java/lang/invoke/VarHandle") (w3 : (Cond.selects C x z).before a0 Z = true) (w4 : (Cond.instanceMethod z).before a0 Z = true) (w5 : (Cond.initialized z.cls).before a0 Z = true) (w6 : (Cond.code z bytes maxL ret).before a0 Z = true)
    (b : Addr) (argsL rest : List Value) (W : Nat) {r : Value} (hM : own_Met l z bytes maxL ret [] rm Z (.ref b :: argsL).toArray h (own_R (some r) h)) (hf : rm.frames + 1 ≤ R.frames) (hl : W + (maxL + 11) + rm.locals ≤ R.locals) (hc0 : rm.cells = 0) (hs0 : rm.slots = 0) (eT : T.heap = h) (E : Exa Z h b C) {pc : Nat} {Ls : Array Slot} (hsize : Ls.size = c.maxLocals)
    (hlen : ∀ sig, parseMethodDescriptor x.desc = some sig → argsL.length = sig.parameters.length) (hW : 2 * 0 + (rest.map fun v => v.category).sum ≤ W) (hd : decode c.code pc = .ok (.invokevirtual index, 3)) (pc' : Nat) (hp : pc + 3 = pc') {St : List Value} (hs : St = argsL.reverse ++ .ref b :: rest) (hC : cells ≤ R.cells) (hN : slots ≤ R.slots)
    (k : ∀ T', Stand p l e R s m args below meth c T' locs cells slots → T'.heap = h → own_Go p.tables e below F (T'.setTop (mkF m pc' Ls (r :: rest)))) : own_Go p.tables e below F (T.setTop (mkF m pc Ls St)) := by
  subst hp hs
  obtain ⟨v, T', L, X', ⟨q1, q2, q3⟩, st⟩ := own_callU X hx hZ hown w1 w2 w2' hy w3 w4 w5 w6 b argsL rest W hM hf hl eT E hsize hlen hW hd (by rw [hc0]; exact hC) (by rw [hs0]; exact hN)
  subst q1
  exact own_by st (k T' (own_same hc0 hs0 X' q3) q2)
theorem own_voidS (X : Stand p l e R s m args below meth c T locs cells slots) (hx : p.tables.exec = Jvm.exec) {F : State → Prop} (hZ : Z.Warmed39 s.vm) {own : String} {index : Nat} {y : MethodName} {bytes : ByteArray} {maxL : Nat} {ret : Option FieldType} {rm : Room} (hown : s.vm.findClass own = some m.cls)
    (w1 : (Cond.methodLink own index y).before a0 Z = true) (w2 : (Cond.static y).before a0 Z = true) (w3 : (Cond.initialized y.cls).before a0 Z = true) (w4 : (Cond.code y bytes maxL ret).before a0 Z = true) (hy : y.cls ≠ "java/lang/invoke/MethodHandle" ∧ y.cls ≠ "java/lang/invoke/VarHandle")
    (argsL rest : List Value) (W : Nat) (hM : own_Met l y bytes maxL ret [] rm Z argsL.toArray h (own_R none h)) (hf : rm.frames + 1 ≤ R.frames) (hl : W + (maxL + 11) + rm.locals ≤ R.locals) (hc0 : rm.cells = 0) (hs0 : rm.slots = 0) (eT : T.heap = h) {pc : Nat} {Ls : Array Slot} (hsize : Ls.size = c.maxLocals)
    (hlen : ∀ sig, parseMethodDescriptor y.desc = some sig → argsL.length = sig.parameters.length) (hW : 2 * 0 + (rest.map fun v => v.category).sum ≤ W) (hd : decode c.code pc = .ok (.invokestatic index, 3)) (pc' : Nat) (hp : pc + 3 = pc') {St : List Value} (hs : St = argsL.reverse ++ rest) (hC : cells ≤ R.cells) (hN : slots ≤ R.slots)
    (k : ∀ T', Stand p l e R s m args below meth c T' locs cells slots → T'.heap = h → own_Go p.tables e below F (T'.setTop (mkF m pc' Ls rest))) : own_Go p.tables e below F (T.setTop (mkF m pc Ls St)) := by
  subst hp hs
  obtain ⟨v, T', L, X', ⟨q1, q2, q3⟩, st⟩ := own_callS X hx hZ hown w1 w2 w3 w4 hy argsL rest W hM hf hl eT hsize hlen hW hd (by rw [hc0]; exact hC) (by rw [hs0]; exact hN)
  subst q1
  exact own_by st (k T' (own_same hc0 hs0 X' q3) q2)
theorem own_voidV (X : Stand p l e R s m args below meth c T locs cells slots) (hx : p.tables.exec = Jvm.exec) {F : State → Prop} (hZ : Z.Warmed39 s.vm) {own C : String} {index : Nat} {y z : MethodName} {bytes : ByteArray} {maxL : Nat} {ret : Option FieldType} {rm : Room} (hown : s.vm.findClass own = some m.cls)
    (w1 : (Cond.methodLink own index y).before a0 Z = true) (w2 : (Cond.declares y).before a0 Z = true) (hnf : NotFace s y) (w3 : (Cond.selects C y z).before a0 Z = true) (w4 : (Cond.instanceMethod z).before a0 Z = true) (w5 : (Cond.initialized z.cls).before a0 Z = true) (w6 : (Cond.code z bytes maxL ret).before a0 Z = true) (hy : y.cls ≠ "java/lang/invoke/MethodHandle" ∧ y.cls ≠ "java/lang/invoke/VarHandle")
    (b : Addr) (argsL rest : List Value) (W : Nat) (hM : own_Met l z bytes maxL ret [] rm Z (.ref b :: argsL).toArray h (own_R none h)) (hf : rm.frames + 1 ≤ R.frames) (hl : W + (maxL + 11) + rm.locals ≤ R.locals) (hc0 : rm.cells = 0) (hs0 : rm.slots = 0) (eT : T.heap = h) (E : Exa Z h b C) {pc : Nat} {Ls : Array Slot} (hsize : Ls.size = c.maxLocals)
    (hlen : ∀ sig, parseMethodDescriptor y.desc = some sig → argsL.length = sig.parameters.length) (hW : 2 * 0 + (rest.map fun v => v.category).sum ≤ W) (hd : decode c.code pc = .ok (.invokevirtual index, 3)) (pc' : Nat) (hp : pc + 3 = pc') {St : List Value} (hs : St = argsL.reverse ++ .ref b :: rest) (hC : cells ≤ R.cells) (hN : slots ≤ R.slots)
    (k : ∀ T', Stand p l e R s m args below meth c T' locs cells slots → T'.heap = h → own_Go p.tables e below F (T'.setTop (mkF m pc' Ls rest))) : own_Go p.tables e below F (T.setTop (mkF m pc Ls St)) := by
  subst hp hs
  obtain ⟨v, T', L, X', ⟨q1, q2, q3⟩, st⟩ := own_callV X hx hZ hown w1 w2 hnf w3 w4 w5 w6 hy b argsL rest W hM hf hl eT E hsize hlen hW hd (by rw [hc0]; exact hC) (by rw [hs0]; exact hN)
  subst q1
  exact own_by st (k T' (own_same hc0 hs0 X' q3) q2)
theorem own_voidN (X : Stand p l e R s m args below meth c T locs cells slots) (hx : p.tables.exec = Jvm.exec) {F : State → Prop} (hZ : Z.Warmed39 s.vm) {own : String} {index : Nat} {y : MethodName} {bytes : ByteArray} {maxL : Nat} {rm : Room} (hy1 : y.name = "<init>") (hown : s.vm.findClass own = some m.cls)
    (w1 : (Cond.methodLink own index y).before a0 Z = true) (w4 : (Cond.instanceMethod y).before a0 Z = true) (w5 : (Cond.initialized y.cls).before a0 Z = true) (w6 : (Cond.code y bytes maxL none).before a0 Z = true) (hy : y.cls ≠ "java/lang/invoke/MethodHandle" ∧ y.cls ≠ "java/lang/invoke/VarHandle")
    (b : Addr) (argsL rest : List Value) (W : Nat) (hM : own_Met l y bytes maxL none [] rm Z (.ref b :: argsL).toArray h (own_R none h)) (hf : rm.frames + 1 ≤ R.frames) (hl : W + (maxL + 11) + rm.locals ≤ R.locals) (hc0 : rm.cells = 0) (hs0 : rm.slots = 0) (eT : T.heap = h) {pc : Nat} {Ls : Array Slot} (hsize : Ls.size = c.maxLocals)
    (hlen : ∀ sig, parseMethodDescriptor y.desc = some sig → argsL.length = sig.parameters.length) (hW : 2 * 0 + (rest.map fun v => v.category).sum ≤ W) (hd : decode c.code pc = .ok (.invokespecial index, 3)) (pc' : Nat) (hp : pc + 3 = pc') {St : List Value} (hs : St = argsL.reverse ++ .ref b :: rest) (hC : cells ≤ R.cells) (hN : slots ≤ R.slots)
    (k : ∀ T', Stand p l e R s m args below meth c T' locs cells slots → T'.heap = h → own_Go p.tables e below F (T'.setTop (mkF m pc' Ls rest))) : own_Go p.tables e below F (T.setTop (mkF m pc Ls St)) := by
  subst hp hs
  obtain ⟨v, T', L, X', ⟨q1, q2, q3⟩, st⟩ := own_callN X hx hZ hy1 hown w1 w4 w5 w6 hy b argsL rest W hM hf hl eT hsize hlen hW hd (by rw [hc0]; exact hC) (by rw [hs0]; exact hN)
  subst q1
  exact own_by st (k T' (own_same hc0 hs0 X' q3) q2)
def own_Q0 (n0 : Nat) (v : Option Value) (h : Heap) (L : List Loc) : Prop := v = some (.int 1) ∧ Fr n0 L
end OwnHead
theorem own_fldI {Z : State} {args : Array Value} {t : Term} {a : Addr} {C n d : String} {k : Int32} (ev : t.eval args Z none [] Z = some (.ref a)) (q : (Cond.eq (.field t C n d) (.int k)).value args Z none Z [] = some true) : Fld Z Z.heap a C n d (.int k) := by
  exact Fld.start ((fld_at ev).symm.trans (eqv_i (F := .int k) rfl q))
theorem own_fldN {Z : State} {args : Array Value} {t : Term} {a : Addr} {C n d : String} (ev : t.eval args Z none [] Z = some (.ref a)) (q : (Cond.eq (.field t C n d) .null).value args Z none Z [] = some true) : Fld Z Z.heap a C n d .null := by
  exact Fld.start ((fld_at ev).symm.trans (null_v q))
theorem own_fldR {Z : State} {args : Array Value} {t u : Term} {a b : Addr} {C n d : String} (ev : t.eval args Z none [] Z = some (.ref a)) (eu : u.eval args Z none [] Z = some (.ref b)) (q : (Cond.eq (.field t C n d) u).value args Z none Z [] = some true) : Fld Z Z.heap a C n d (.ref b) := by
  obtain ⟨x, y, hx, hy, hk, hk'⟩ := cmp_v (Or.inl q)
  cases eu.symm.trans hy
  refine Fld.start ((fld_at ev).symm.trans ?_)
  rw [hx]
  cases x with
  | ref z => simp [Cond.value, hx, hy] at q; rw [q]
  | null => simp [Cond.value, hx, hy] at q
  | _ => simp_all [Kin, Value.isRef]

def own_C (Z : State) (h0 : Heap) (w_SqlText_Control_NONE w_SqlText_Control_WITH_WORK w_SqlText_Control_ALONE : Addr) : Prop := Sta Z h0 "com/example/maco/maco/adapter/SqlText$Control" "NONE" "Lcom/example/maco/maco/adapter/SqlText$Control;" (.ref w_SqlText_Control_NONE) ∧ Exa Z h0 w_SqlText_Control_NONE "com/example/maco/maco/adapter/SqlText$Control" ∧ Sta Z h0 "com/example/maco/maco/adapter/SqlText$Control" "WITH_WORK" "Lcom/example/maco/maco/adapter/SqlText$Control;" (.ref w_SqlText_Control_WITH_WORK) ∧ Exa Z h0 w_SqlText_Control_WITH_WORK "com/example/maco/maco/adapter/SqlText$Control" ∧ Sta Z h0 "com/example/maco/maco/adapter/SqlText$Control" "ALONE" "Lcom/example/maco/maco/adapter/SqlText$Control;" (.ref w_SqlText_Control_ALONE) ∧ Exa Z h0 w_SqlText_Control_ALONE "com/example/maco/maco/adapter/SqlText$Control" ∧ Fld Z h0 w_SqlText_Control_WITH_WORK "java/lang/Enum" "ordinal" "I" (.int (2 : Int32)) ∧ Fld Z h0 w_SqlText_Control_NONE "java/lang/Enum" "ordinal" "I" (.int (0 : Int32)) ∧ Fld Z h0 w_SqlText_Control_ALONE "java/lang/Enum" "ordinal" "I" (.int (1 : Int32)) ∧ w_SqlText_Control_NONE ≠ w_SqlText_Control_WITH_WORK ∧ w_SqlText_Control_ALONE ≠ w_SqlText_Control_WITH_WORK ∧ w_SqlText_Control_ALONE ≠ w_SqlText_Control_NONE
theorem own_mod3 (x : Int32) : ((x &&& (2147483647 : Int32)) % (3 : Int32)) = (0 : Int32) ∨ ((x &&& (2147483647 : Int32)) % (3 : Int32)) = (1 : Int32) ∨ ((x &&& (2147483647 : Int32)) % (3 : Int32)) = (2 : Int32) := by
  have e := Jvm.Kit.i32_mask x (2147483647 : Int32) (k := 31) (by decide) (by decide)
  have r : ((x &&& (2147483647 : Int32)) % (3 : Int32)).toInt = (x &&& (2147483647 : Int32)).toInt % ((3 : Int32)).toInt := Jvm.Kit.i32_rem_nonneg (by rw [e]; omega)
  have l0 : ((0 : Int32)).toInt = 0 := by decide
  have l1 : ((1 : Int32)).toInt = 1 := by decide
  have l2 : ((2 : Int32)).toInt = 2 := by decide
  have l3 : ((3 : Int32)).toInt = 3 := by decide
  rw [l3] at r
  simp only [← Int32.toInt_inj, l0, l1, l2]
  generalize ((x &&& (2147483647 : Int32)) % (3 : Int32)).toInt = z at r ⊢
  omega
theorem d0_0 : decode method_2_code 0 = .ok (.iload_n 0, 1) := by decide +kernel
theorem d0_1 : decode method_2_code 1 = .ok (.ldc 7, 2) := by decide +kernel
theorem d0_3 : decode method_2_code 3 = .ok (.iand, 1) := by decide +kernel
theorem d0_4 : decode method_2_code 4 = .ok (.iconst 3, 1) := by decide +kernel
theorem d0_5 : decode method_2_code 5 = .ok (.irem, 1) := by decide +kernel
theorem d0_6 : decode method_2_code 6 = .ok (.istore_n 1, 1) := by decide +kernel
theorem d0_7 : decode method_2_code 7 = .ok (.iload_n 1, 1) := by decide +kernel
theorem d0_8 : decode method_2_code 8 = .ok (.ifCond .ne 7, 3) := by decide +kernel
theorem d0_11 : decode method_2_code 11 = .ok (.getstatic 8, 3) := by decide +kernel
theorem d0_14 : decode method_2_code 14 = .ok (.areturn, 1) := by decide +kernel
theorem pn_0 : plainName "com/example/maco/maco/adapter/ControlThenPinLaw" = true := by first | (simp [plainName, overriddenIn]; done) | decide +kernel
theorem ef_0 (m : MethodId) (y0 : Int32) : entryFrame m #[(.int y0)] 2 = mkF m 0 #[.val (.int y0), .unset] [] := by first | (simp [entryFrame, mkF, argsToLocals, Value.category]; done) | rfl
theorem rm_pick_0 (l : Launch) (Z : State) (a0 : Array Value) (hw : own_HW Z a0) (ws : List Jvm.Cond) (x0 : Int32) (h0 : Heap) (n0 : Nat) {w_SqlText_Control_NONE w_SqlText_Control_WITH_WORK w_SqlText_Control_ALONE : Addr} (H : own_C Z h0 w_SqlText_Control_NONE w_SqlText_Control_WITH_WORK w_SqlText_Control_ALONE) (q : ((x0 &&& (2147483647 : Int32)) % (3 : Int32)) = (0 : Int32)) :
    own_Met l (⟨"com/example/maco/maco/adapter/ControlThenPinLaw", "pick", "(I)Lcom/example/maco/maco/adapter/SqlText$Control;"⟩ : MethodName) method_2_code 2 (some (.object "com/example/maco/maco/adapter/SqlText$Control")) ws (own_rm 0 0 0 0) Z #[(.int x0)] h0 (own_R (some (.ref w_SqlText_Control_NONE)) h0) := by
  refine own_met (plainFor_of_name pn_0) ?_
  intro p e s m below meth c T0 hx hby hml hown hret hk hnm hZ X0 e0
  have hown : s.vm.findClass "com/example/maco/maco/adapter/ControlThenPinLaw" = some m.cls := hown
  obtain ⟨S_w_SqlText_Control_NONE, -, -, -, -, -, -, -, -, -, -, -⟩ := id H
  refine own_ent (ef_0 m x0) ?_
  refine own_iload_n X0 hx (hb hby d0_0) rfl 1 rfl ?_
  refine own_ldc X0 hx hZ hown (own_w hw 4 rfl) (hb hby d0_1) 3 rfl ?_
  refine own_iand X0 hx (hb hby d0_3) 4 rfl ?_
  refine own_iconst X0 hx (hb hby d0_4) (3 : Int32) rfl 5 rfl ?_
  refine own_irem X0 hx (hb hby d0_5) (by decide) 6 rfl ?_
  rw [q]
  refine own_istore_n X0 hx (hb hby d0_6) #[.val (.int x0), .val (.int (0 : Int32))] rfl 7 rfl ?_
  refine own_iload_n X0 hx (hb hby d0_7) rfl 8 rfl ?_
  refine own_ifN X0 hx (hb hby d0_8) ((if0 _ _).trans (teq (by decide : (0 : Int32) = (0 : Int32))).2) 11 rfl ?_
  refine own_getS X0 hx hZ hown (host := "") (Or.inl (own_w hw 5 rfl)) Via.refl e0 S_w_SqlText_Control_NONE (hb hby d0_11) 14 rfl fun T1 X1 e1 => ?_
  exact own_retA X1 hx hk hret rfl rfl (hb hby d0_14) rfl ⟨rfl, e1, rfl⟩ (by decide) (by decide)
theorem d1_0 : decode prog_15_method_4_code 0 = .ok (.aload_n 0, 1) := by decide +kernel
theorem d1_1 : decode prog_15_method_4_code 1 = .ok (.getstatic 3, 3) := by decide +kernel
theorem d1_4 : decode prog_15_method_4_code 4 = .ok (.if_acmp .ne 16, 3) := by decide +kernel
theorem d1_7 : decode prog_15_method_4_code 7 = .ok (.aload_n 1, 1) := by decide +kernel
theorem d1_8 : decode prog_15_method_4_code 8 = .ok (.getstatic 3, 3) := by decide +kernel
theorem d1_11 : decode prog_15_method_4_code 11 = .ok (.if_acmp .ne 9, 3) := by decide +kernel
theorem d1_14 : decode prog_15_method_4_code 14 = .ok (.getstatic 3, 3) := by decide +kernel
theorem d1_17 : decode prog_15_method_4_code 17 = .ok (.goto 6, 3) := by decide +kernel
theorem d1_23 : decode prog_15_method_4_code 23 = .ok (.areturn, 1) := by decide +kernel
theorem pn_1 : plainName "com/example/maco/maco/adapter/SqlText$Control" = true := by first | (simp [plainName, overriddenIn]; done) | decide +kernel
theorem ef_1 (m : MethodId) (y0 : Addr) (y1 : Addr) : entryFrame m #[(.ref y0), (.ref y1)] 2 = mkF m 0 #[.val (.ref y0), .val (.ref y1)] [] := by first | (simp [entryFrame, mkF, argsToLocals, Value.category]; done) | rfl
theorem rm_then_1 (l : Launch) (Z : State) (a0 : Array Value) (hw : own_HW Z a0) (ws : List Jvm.Cond)  (h0 : Heap) (n0 : Nat) {w_SqlText_Control_NONE w_SqlText_Control_WITH_WORK w_SqlText_Control_ALONE : Addr} (H : own_C Z h0 w_SqlText_Control_NONE w_SqlText_Control_WITH_WORK w_SqlText_Control_ALONE) :
    own_Met l (⟨"com/example/maco/maco/adapter/SqlText$Control", "then", "(Lcom/example/maco/maco/adapter/SqlText$Control;)Lcom/example/maco/maco/adapter/SqlText$Control;"⟩ : MethodName) prog_15_method_4_code 2 (some (.object "com/example/maco/maco/adapter/SqlText$Control")) ws (own_rm 0 0 0 0) Z #[(.ref w_SqlText_Control_NONE), (.ref w_SqlText_Control_NONE)] h0 (own_R (some (.ref w_SqlText_Control_NONE)) h0) := by
  refine own_met (plainFor_of_name pn_1) ?_
  intro p e s m below meth c T0 hx hby hml hown hret hk hnm hZ X0 e0
  have hown : s.vm.findClass "com/example/maco/maco/adapter/SqlText$Control" = some m.cls := hown
  obtain ⟨S_w_SqlText_Control_NONE, -, -, -, -, -, -, -, -, -, -, -⟩ := id H
  refine own_ent (ef_1 m w_SqlText_Control_NONE w_SqlText_Control_NONE) ?_
  refine own_aload_n X0 hx (hb hby d1_0) rfl rfl 1 rfl ?_
  refine own_getS X0 hx hZ hown (host := "") (Or.inl (own_w hw 15 rfl)) Via.refl e0 S_w_SqlText_Control_NONE (hb hby d1_1) 4 rfl fun T1 X1 e1 => ?_
  refine own_acmp X1 hx true (hb hby d1_4) rfl rfl (decide_eq_true rfl) 7 (by decide) (by decide) ?_
  refine own_aload_n X1 hx (hb hby d1_7) rfl rfl 8 rfl ?_
  refine own_getS X1 hx hZ hown (host := "") (Or.inl (own_w hw 15 rfl)) Via.refl e1 S_w_SqlText_Control_NONE (hb hby d1_8) 11 rfl fun T2 X2 e2 => ?_
  refine own_acmp X2 hx true (hb hby d1_11) rfl rfl (decide_eq_true rfl) 14 (by decide) (by decide) ?_
  refine own_getS X2 hx hZ hown (host := "") (Or.inl (own_w hw 15 rfl)) Via.refl e2 S_w_SqlText_Control_NONE (hb hby d1_14) 17 rfl fun T3 X3 e3 => ?_
  refine own_goto X3 hx (hb hby d1_17) 23 (by decide) (by decide) ?_
  exact own_retA X3 hx hk hret rfl rfl (hb hby d1_23) rfl ⟨rfl, e3, rfl⟩ (by decide) (by decide)
theorem d0_15 : decode method_2_code 15 = .ok (.iload_n 1, 1) := by decide +kernel
theorem d0_16 : decode method_2_code 16 = .ok (.iconst 1, 1) := by decide +kernel
theorem d0_17 : decode method_2_code 17 = .ok (.if_icmp .ne 7, 3) := by decide +kernel
theorem d0_20 : decode method_2_code 20 = .ok (.getstatic 14, 3) := by decide +kernel
theorem d0_23 : decode method_2_code 23 = .ok (.areturn, 1) := by decide +kernel
theorem rm_pick_1 (l : Launch) (Z : State) (a0 : Array Value) (hw : own_HW Z a0) (ws : List Jvm.Cond) (x0 : Int32) (h0 : Heap) (n0 : Nat) {w_SqlText_Control_NONE w_SqlText_Control_WITH_WORK w_SqlText_Control_ALONE : Addr} (H : own_C Z h0 w_SqlText_Control_NONE w_SqlText_Control_WITH_WORK w_SqlText_Control_ALONE) (q : ((x0 &&& (2147483647 : Int32)) % (3 : Int32)) = (1 : Int32)) :
    own_Met l (⟨"com/example/maco/maco/adapter/ControlThenPinLaw", "pick", "(I)Lcom/example/maco/maco/adapter/SqlText$Control;"⟩ : MethodName) method_2_code 2 (some (.object "com/example/maco/maco/adapter/SqlText$Control")) ws (own_rm 0 0 0 0) Z #[(.int x0)] h0 (own_R (some (.ref w_SqlText_Control_ALONE)) h0) := by
  refine own_met (plainFor_of_name pn_0) ?_
  intro p e s m below meth c T0 hx hby hml hown hret hk hnm hZ X0 e0
  have hown : s.vm.findClass "com/example/maco/maco/adapter/ControlThenPinLaw" = some m.cls := hown
  obtain ⟨-, -, -, -, S_w_SqlText_Control_ALONE, -, -, -, -, -, -, -⟩ := id H
  refine own_ent (ef_0 m x0) ?_
  refine own_iload_n X0 hx (hb hby d0_0) rfl 1 rfl ?_
  refine own_ldc X0 hx hZ hown (own_w hw 4 rfl) (hb hby d0_1) 3 rfl ?_
  refine own_iand X0 hx (hb hby d0_3) 4 rfl ?_
  refine own_iconst X0 hx (hb hby d0_4) (3 : Int32) rfl 5 rfl ?_
  refine own_irem X0 hx (hb hby d0_5) (by decide) 6 rfl ?_
  rw [q]
  refine own_istore_n X0 hx (hb hby d0_6) #[.val (.int x0), .val (.int (1 : Int32))] rfl 7 rfl ?_
  refine own_iload_n X0 hx (hb hby d0_7) rfl 8 rfl ?_
  refine own_ifY X0 hx (hb hby d0_8) ((if0 _ _).trans (feq (by decide : ¬ ((1 : Int32) = (0 : Int32)))).2) 15 (by decide) (by decide) ?_
  refine own_iload_n X0 hx (hb hby d0_15) rfl 16 rfl ?_
  refine own_iconst X0 hx (hb hby d0_16) (1 : Int32) rfl 17 rfl ?_
  refine own_icmpN X0 hx (hb hby d0_17) (teq (by decide : (1 : Int32) = (1 : Int32))).2 20 rfl ?_
  refine own_getS X0 hx hZ hown (host := "") (Or.inl (own_w hw 17 rfl)) Via.refl e0 S_w_SqlText_Control_ALONE (hb hby d0_20) 23 rfl fun T1 X1 e1 => ?_
  exact own_retA X1 hx hk hret rfl rfl (hb hby d0_23) rfl ⟨rfl, e1, rfl⟩ (by decide) (by decide)
theorem d1_20 : decode prog_15_method_4_code 20 = .ok (.getstatic 10, 3) := by decide +kernel
theorem rm_then_2 (l : Launch) (Z : State) (a0 : Array Value) (hw : own_HW Z a0) (ws : List Jvm.Cond)  (h0 : Heap) (n0 : Nat) {w_SqlText_Control_NONE w_SqlText_Control_WITH_WORK w_SqlText_Control_ALONE : Addr} (H : own_C Z h0 w_SqlText_Control_NONE w_SqlText_Control_WITH_WORK w_SqlText_Control_ALONE) :
    own_Met l (⟨"com/example/maco/maco/adapter/SqlText$Control", "then", "(Lcom/example/maco/maco/adapter/SqlText$Control;)Lcom/example/maco/maco/adapter/SqlText$Control;"⟩ : MethodName) prog_15_method_4_code 2 (some (.object "com/example/maco/maco/adapter/SqlText$Control")) ws (own_rm 0 0 0 0) Z #[(.ref w_SqlText_Control_NONE), (.ref w_SqlText_Control_ALONE)] h0 (own_R (some (.ref w_SqlText_Control_WITH_WORK)) h0) := by
  refine own_met (plainFor_of_name pn_1) ?_
  intro p e s m below meth c T0 hx hby hml hown hret hk hnm hZ X0 e0
  have hown : s.vm.findClass "com/example/maco/maco/adapter/SqlText$Control" = some m.cls := hown
  obtain ⟨S_w_SqlText_Control_NONE, -, S_w_SqlText_Control_WITH_WORK, -, -, -, -, -, -, -, -, ne_w_SqlText_Control_ALONE_w_SqlText_Control_NONE⟩ := id H
  refine own_ent (ef_1 m w_SqlText_Control_NONE w_SqlText_Control_ALONE) ?_
  refine own_aload_n X0 hx (hb hby d1_0) rfl rfl 1 rfl ?_
  refine own_getS X0 hx hZ hown (host := "") (Or.inl (own_w hw 15 rfl)) Via.refl e0 S_w_SqlText_Control_NONE (hb hby d1_1) 4 rfl fun T1 X1 e1 => ?_
  refine own_acmp X1 hx true (hb hby d1_4) rfl rfl (decide_eq_true rfl) 7 (by decide) (by decide) ?_
  refine own_aload_n X1 hx (hb hby d1_7) rfl rfl 8 rfl ?_
  refine own_getS X1 hx hZ hown (host := "") (Or.inl (own_w hw 15 rfl)) Via.refl e1 S_w_SqlText_Control_NONE (hb hby d1_8) 11 rfl fun T2 X2 e2 => ?_
  refine own_acmp X2 hx false (hb hby d1_11) rfl rfl (decide_eq_false fun q => ne_w_SqlText_Control_ALONE_w_SqlText_Control_NONE (Value.ref.inj q)) 20 (by decide) (by decide) ?_
  refine own_getS X2 hx hZ hown (host := "") (Or.inl (own_w hw 16 rfl)) Via.refl e2 S_w_SqlText_Control_WITH_WORK (hb hby d1_20) 23 rfl fun T3 X3 e3 => ?_
  exact own_retA X3 hx hk hret rfl rfl (hb hby d1_23) rfl ⟨rfl, e3, rfl⟩ (by decide) (by decide)
theorem rm_then_3 (l : Launch) (Z : State) (a0 : Array Value) (hw : own_HW Z a0) (ws : List Jvm.Cond)  (h0 : Heap) (n0 : Nat) {w_SqlText_Control_NONE w_SqlText_Control_WITH_WORK w_SqlText_Control_ALONE : Addr} (H : own_C Z h0 w_SqlText_Control_NONE w_SqlText_Control_WITH_WORK w_SqlText_Control_ALONE) :
    own_Met l (⟨"com/example/maco/maco/adapter/SqlText$Control", "then", "(Lcom/example/maco/maco/adapter/SqlText$Control;)Lcom/example/maco/maco/adapter/SqlText$Control;"⟩ : MethodName) prog_15_method_4_code 2 (some (.object "com/example/maco/maco/adapter/SqlText$Control")) ws (own_rm 0 0 0 0) Z #[(.ref w_SqlText_Control_NONE), (.ref w_SqlText_Control_WITH_WORK)] h0 (own_R (some (.ref w_SqlText_Control_WITH_WORK)) h0) := by
  refine own_met (plainFor_of_name pn_1) ?_
  intro p e s m below meth c T0 hx hby hml hown hret hk hnm hZ X0 e0
  have hown : s.vm.findClass "com/example/maco/maco/adapter/SqlText$Control" = some m.cls := hown
  obtain ⟨S_w_SqlText_Control_NONE, -, S_w_SqlText_Control_WITH_WORK, -, -, -, -, -, -, ne_w_SqlText_Control_NONE_w_SqlText_Control_WITH_WORK, -, -⟩ := id H
  refine own_ent (ef_1 m w_SqlText_Control_NONE w_SqlText_Control_WITH_WORK) ?_
  refine own_aload_n X0 hx (hb hby d1_0) rfl rfl 1 rfl ?_
  refine own_getS X0 hx hZ hown (host := "") (Or.inl (own_w hw 15 rfl)) Via.refl e0 S_w_SqlText_Control_NONE (hb hby d1_1) 4 rfl fun T1 X1 e1 => ?_
  refine own_acmp X1 hx true (hb hby d1_4) rfl rfl (decide_eq_true rfl) 7 (by decide) (by decide) ?_
  refine own_aload_n X1 hx (hb hby d1_7) rfl rfl 8 rfl ?_
  refine own_getS X1 hx hZ hown (host := "") (Or.inl (own_w hw 15 rfl)) Via.refl e1 S_w_SqlText_Control_NONE (hb hby d1_8) 11 rfl fun T2 X2 e2 => ?_
  refine own_acmp X2 hx false (hb hby d1_11) rfl rfl (decide_eq_false fun q => (Ne.symm ne_w_SqlText_Control_NONE_w_SqlText_Control_WITH_WORK) (Value.ref.inj q)) 20 (by decide) (by decide) ?_
  refine own_getS X2 hx hZ hown (host := "") (Or.inl (own_w hw 16 rfl)) Via.refl e2 S_w_SqlText_Control_WITH_WORK (hb hby d1_20) 23 rfl fun T3 X3 e3 => ?_
  exact own_retA X3 hx hk hret rfl rfl (hb hby d1_23) rfl ⟨rfl, e3, rfl⟩ (by decide) (by decide)
theorem d0_24 : decode method_2_code 24 = .ok (.getstatic 17, 3) := by decide +kernel
theorem d0_27 : decode method_2_code 27 = .ok (.areturn, 1) := by decide +kernel
theorem rm_pick_2 (l : Launch) (Z : State) (a0 : Array Value) (hw : own_HW Z a0) (ws : List Jvm.Cond) (x0 : Int32) (h0 : Heap) (n0 : Nat) {w_SqlText_Control_NONE w_SqlText_Control_WITH_WORK w_SqlText_Control_ALONE : Addr} (H : own_C Z h0 w_SqlText_Control_NONE w_SqlText_Control_WITH_WORK w_SqlText_Control_ALONE) (q : ((x0 &&& (2147483647 : Int32)) % (3 : Int32)) = (2 : Int32)) :
    own_Met l (⟨"com/example/maco/maco/adapter/ControlThenPinLaw", "pick", "(I)Lcom/example/maco/maco/adapter/SqlText$Control;"⟩ : MethodName) method_2_code 2 (some (.object "com/example/maco/maco/adapter/SqlText$Control")) ws (own_rm 0 0 0 0) Z #[(.int x0)] h0 (own_R (some (.ref w_SqlText_Control_WITH_WORK)) h0) := by
  refine own_met (plainFor_of_name pn_0) ?_
  intro p e s m below meth c T0 hx hby hml hown hret hk hnm hZ X0 e0
  have hown : s.vm.findClass "com/example/maco/maco/adapter/ControlThenPinLaw" = some m.cls := hown
  obtain ⟨-, -, S_w_SqlText_Control_WITH_WORK, -, -, -, -, -, -, -, -, -⟩ := id H
  refine own_ent (ef_0 m x0) ?_
  refine own_iload_n X0 hx (hb hby d0_0) rfl 1 rfl ?_
  refine own_ldc X0 hx hZ hown (own_w hw 4 rfl) (hb hby d0_1) 3 rfl ?_
  refine own_iand X0 hx (hb hby d0_3) 4 rfl ?_
  refine own_iconst X0 hx (hb hby d0_4) (3 : Int32) rfl 5 rfl ?_
  refine own_irem X0 hx (hb hby d0_5) (by decide) 6 rfl ?_
  rw [q]
  refine own_istore_n X0 hx (hb hby d0_6) #[.val (.int x0), .val (.int (2 : Int32))] rfl 7 rfl ?_
  refine own_iload_n X0 hx (hb hby d0_7) rfl 8 rfl ?_
  refine own_ifY X0 hx (hb hby d0_8) ((if0 _ _).trans (feq (by decide : ¬ ((2 : Int32) = (0 : Int32)))).2) 15 (by decide) (by decide) ?_
  refine own_iload_n X0 hx (hb hby d0_15) rfl 16 rfl ?_
  refine own_iconst X0 hx (hb hby d0_16) (1 : Int32) rfl 17 rfl ?_
  refine own_icmpY X0 hx (hb hby d0_17) (feq (by decide : ¬ ((2 : Int32) = (1 : Int32)))).2 24 (by decide) (by decide) ?_
  refine own_getS X0 hx hZ hown (host := "") (Or.inl (own_w hw 8 rfl)) Via.refl e0 S_w_SqlText_Control_WITH_WORK (hb hby d0_24) 27 rfl fun T1 X1 e1 => ?_
  exact own_retA X1 hx hk hret rfl rfl (hb hby d0_27) rfl ⟨rfl, e1, rfl⟩ (by decide) (by decide)
theorem rm_then_4 (l : Launch) (Z : State) (a0 : Array Value) (hw : own_HW Z a0) (ws : List Jvm.Cond)  (h0 : Heap) (n0 : Nat) {w_SqlText_Control_NONE w_SqlText_Control_WITH_WORK w_SqlText_Control_ALONE : Addr} (H : own_C Z h0 w_SqlText_Control_NONE w_SqlText_Control_WITH_WORK w_SqlText_Control_ALONE) :
    own_Met l (⟨"com/example/maco/maco/adapter/SqlText$Control", "then", "(Lcom/example/maco/maco/adapter/SqlText$Control;)Lcom/example/maco/maco/adapter/SqlText$Control;"⟩ : MethodName) prog_15_method_4_code 2 (some (.object "com/example/maco/maco/adapter/SqlText$Control")) ws (own_rm 0 0 0 0) Z #[(.ref w_SqlText_Control_ALONE), (.ref w_SqlText_Control_NONE)] h0 (own_R (some (.ref w_SqlText_Control_WITH_WORK)) h0) := by
  refine own_met (plainFor_of_name pn_1) ?_
  intro p e s m below meth c T0 hx hby hml hown hret hk hnm hZ X0 e0
  have hown : s.vm.findClass "com/example/maco/maco/adapter/SqlText$Control" = some m.cls := hown
  obtain ⟨S_w_SqlText_Control_NONE, -, S_w_SqlText_Control_WITH_WORK, -, -, -, -, -, -, -, -, ne_w_SqlText_Control_ALONE_w_SqlText_Control_NONE⟩ := id H
  refine own_ent (ef_1 m w_SqlText_Control_ALONE w_SqlText_Control_NONE) ?_
  refine own_aload_n X0 hx (hb hby d1_0) rfl rfl 1 rfl ?_
  refine own_getS X0 hx hZ hown (host := "") (Or.inl (own_w hw 15 rfl)) Via.refl e0 S_w_SqlText_Control_NONE (hb hby d1_1) 4 rfl fun T1 X1 e1 => ?_
  refine own_acmp X1 hx false (hb hby d1_4) rfl rfl (decide_eq_false fun q => ne_w_SqlText_Control_ALONE_w_SqlText_Control_NONE (Value.ref.inj q)) 20 (by decide) (by decide) ?_
  refine own_getS X1 hx hZ hown (host := "") (Or.inl (own_w hw 16 rfl)) Via.refl e1 S_w_SqlText_Control_WITH_WORK (hb hby d1_20) 23 rfl fun T2 X2 e2 => ?_
  exact own_retA X2 hx hk hret rfl rfl (hb hby d1_23) rfl ⟨rfl, e2, rfl⟩ (by decide) (by decide)
theorem rm_then_5 (l : Launch) (Z : State) (a0 : Array Value) (hw : own_HW Z a0) (ws : List Jvm.Cond)  (h0 : Heap) (n0 : Nat) {w_SqlText_Control_NONE w_SqlText_Control_WITH_WORK w_SqlText_Control_ALONE : Addr} (H : own_C Z h0 w_SqlText_Control_NONE w_SqlText_Control_WITH_WORK w_SqlText_Control_ALONE) :
    own_Met l (⟨"com/example/maco/maco/adapter/SqlText$Control", "then", "(Lcom/example/maco/maco/adapter/SqlText$Control;)Lcom/example/maco/maco/adapter/SqlText$Control;"⟩ : MethodName) prog_15_method_4_code 2 (some (.object "com/example/maco/maco/adapter/SqlText$Control")) ws (own_rm 0 0 0 0) Z #[(.ref w_SqlText_Control_WITH_WORK), (.ref w_SqlText_Control_NONE)] h0 (own_R (some (.ref w_SqlText_Control_WITH_WORK)) h0) := by
  refine own_met (plainFor_of_name pn_1) ?_
  intro p e s m below meth c T0 hx hby hml hown hret hk hnm hZ X0 e0
  have hown : s.vm.findClass "com/example/maco/maco/adapter/SqlText$Control" = some m.cls := hown
  obtain ⟨S_w_SqlText_Control_NONE, -, S_w_SqlText_Control_WITH_WORK, -, -, -, -, -, -, ne_w_SqlText_Control_NONE_w_SqlText_Control_WITH_WORK, -, -⟩ := id H
  refine own_ent (ef_1 m w_SqlText_Control_WITH_WORK w_SqlText_Control_NONE) ?_
  refine own_aload_n X0 hx (hb hby d1_0) rfl rfl 1 rfl ?_
  refine own_getS X0 hx hZ hown (host := "") (Or.inl (own_w hw 15 rfl)) Via.refl e0 S_w_SqlText_Control_NONE (hb hby d1_1) 4 rfl fun T1 X1 e1 => ?_
  refine own_acmp X1 hx false (hb hby d1_4) rfl rfl (decide_eq_false fun q => (Ne.symm ne_w_SqlText_Control_NONE_w_SqlText_Control_WITH_WORK) (Value.ref.inj q)) 20 (by decide) (by decide) ?_
  refine own_getS X1 hx hZ hown (host := "") (Or.inl (own_w hw 16 rfl)) Via.refl e1 S_w_SqlText_Control_WITH_WORK (hb hby d1_20) 23 rfl fun T2 X2 e2 => ?_
  exact own_retA X2 hx hk hret rfl rfl (hb hby d1_23) rfl ⟨rfl, e2, rfl⟩ (by decide) (by decide)
theorem rm_then_6 (l : Launch) (Z : State) (a0 : Array Value) (hw : own_HW Z a0) (ws : List Jvm.Cond)  (h0 : Heap) (n0 : Nat) {w_SqlText_Control_NONE w_SqlText_Control_WITH_WORK w_SqlText_Control_ALONE : Addr} (H : own_C Z h0 w_SqlText_Control_NONE w_SqlText_Control_WITH_WORK w_SqlText_Control_ALONE) :
    own_Met l (⟨"com/example/maco/maco/adapter/SqlText$Control", "then", "(Lcom/example/maco/maco/adapter/SqlText$Control;)Lcom/example/maco/maco/adapter/SqlText$Control;"⟩ : MethodName) prog_15_method_4_code 2 (some (.object "com/example/maco/maco/adapter/SqlText$Control")) ws (own_rm 0 0 0 0) Z #[(.ref w_SqlText_Control_WITH_WORK), (.ref w_SqlText_Control_ALONE)] h0 (own_R (some (.ref w_SqlText_Control_WITH_WORK)) h0) := by
  refine own_met (plainFor_of_name pn_1) ?_
  intro p e s m below meth c T0 hx hby hml hown hret hk hnm hZ X0 e0
  have hown : s.vm.findClass "com/example/maco/maco/adapter/SqlText$Control" = some m.cls := hown
  obtain ⟨S_w_SqlText_Control_NONE, -, S_w_SqlText_Control_WITH_WORK, -, -, -, -, -, -, ne_w_SqlText_Control_NONE_w_SqlText_Control_WITH_WORK, -, -⟩ := id H
  refine own_ent (ef_1 m w_SqlText_Control_WITH_WORK w_SqlText_Control_ALONE) ?_
  refine own_aload_n X0 hx (hb hby d1_0) rfl rfl 1 rfl ?_
  refine own_getS X0 hx hZ hown (host := "") (Or.inl (own_w hw 15 rfl)) Via.refl e0 S_w_SqlText_Control_NONE (hb hby d1_1) 4 rfl fun T1 X1 e1 => ?_
  refine own_acmp X1 hx false (hb hby d1_4) rfl rfl (decide_eq_false fun q => (Ne.symm ne_w_SqlText_Control_NONE_w_SqlText_Control_WITH_WORK) (Value.ref.inj q)) 20 (by decide) (by decide) ?_
  refine own_getS X1 hx hZ hown (host := "") (Or.inl (own_w hw 16 rfl)) Via.refl e1 S_w_SqlText_Control_WITH_WORK (hb hby d1_20) 23 rfl fun T2 X2 e2 => ?_
  exact own_retA X2 hx hk hret rfl rfl (hb hby d1_23) rfl ⟨rfl, e2, rfl⟩ (by decide) (by decide)
theorem rm_then_7 (l : Launch) (Z : State) (a0 : Array Value) (hw : own_HW Z a0) (ws : List Jvm.Cond)  (h0 : Heap) (n0 : Nat) {w_SqlText_Control_NONE w_SqlText_Control_WITH_WORK w_SqlText_Control_ALONE : Addr} (H : own_C Z h0 w_SqlText_Control_NONE w_SqlText_Control_WITH_WORK w_SqlText_Control_ALONE) :
    own_Met l (⟨"com/example/maco/maco/adapter/SqlText$Control", "then", "(Lcom/example/maco/maco/adapter/SqlText$Control;)Lcom/example/maco/maco/adapter/SqlText$Control;"⟩ : MethodName) prog_15_method_4_code 2 (some (.object "com/example/maco/maco/adapter/SqlText$Control")) ws (own_rm 0 0 0 0) Z #[(.ref w_SqlText_Control_ALONE), (.ref w_SqlText_Control_ALONE)] h0 (own_R (some (.ref w_SqlText_Control_WITH_WORK)) h0) := by
  refine own_met (plainFor_of_name pn_1) ?_
  intro p e s m below meth c T0 hx hby hml hown hret hk hnm hZ X0 e0
  have hown : s.vm.findClass "com/example/maco/maco/adapter/SqlText$Control" = some m.cls := hown
  obtain ⟨S_w_SqlText_Control_NONE, -, S_w_SqlText_Control_WITH_WORK, -, -, -, -, -, -, -, -, ne_w_SqlText_Control_ALONE_w_SqlText_Control_NONE⟩ := id H
  refine own_ent (ef_1 m w_SqlText_Control_ALONE w_SqlText_Control_ALONE) ?_
  refine own_aload_n X0 hx (hb hby d1_0) rfl rfl 1 rfl ?_
  refine own_getS X0 hx hZ hown (host := "") (Or.inl (own_w hw 15 rfl)) Via.refl e0 S_w_SqlText_Control_NONE (hb hby d1_1) 4 rfl fun T1 X1 e1 => ?_
  refine own_acmp X1 hx false (hb hby d1_4) rfl rfl (decide_eq_false fun q => ne_w_SqlText_Control_ALONE_w_SqlText_Control_NONE (Value.ref.inj q)) 20 (by decide) (by decide) ?_
  refine own_getS X1 hx hZ hown (host := "") (Or.inl (own_w hw 16 rfl)) Via.refl e1 S_w_SqlText_Control_WITH_WORK (hb hby d1_20) 23 rfl fun T2 X2 e2 => ?_
  exact own_retA X2 hx hk hret rfl rfl (hb hby d1_23) rfl ⟨rfl, e2, rfl⟩ (by decide) (by decide)
theorem rm_then_8 (l : Launch) (Z : State) (a0 : Array Value) (hw : own_HW Z a0) (ws : List Jvm.Cond)  (h0 : Heap) (n0 : Nat) {w_SqlText_Control_NONE w_SqlText_Control_WITH_WORK w_SqlText_Control_ALONE : Addr} (H : own_C Z h0 w_SqlText_Control_NONE w_SqlText_Control_WITH_WORK w_SqlText_Control_ALONE) :
    own_Met l (⟨"com/example/maco/maco/adapter/SqlText$Control", "then", "(Lcom/example/maco/maco/adapter/SqlText$Control;)Lcom/example/maco/maco/adapter/SqlText$Control;"⟩ : MethodName) prog_15_method_4_code 2 (some (.object "com/example/maco/maco/adapter/SqlText$Control")) ws (own_rm 0 0 0 0) Z #[(.ref w_SqlText_Control_WITH_WORK), (.ref w_SqlText_Control_WITH_WORK)] h0 (own_R (some (.ref w_SqlText_Control_WITH_WORK)) h0) := by
  refine own_met (plainFor_of_name pn_1) ?_
  intro p e s m below meth c T0 hx hby hml hown hret hk hnm hZ X0 e0
  have hown : s.vm.findClass "com/example/maco/maco/adapter/SqlText$Control" = some m.cls := hown
  obtain ⟨S_w_SqlText_Control_NONE, -, S_w_SqlText_Control_WITH_WORK, -, -, -, -, -, -, ne_w_SqlText_Control_NONE_w_SqlText_Control_WITH_WORK, -, -⟩ := id H
  refine own_ent (ef_1 m w_SqlText_Control_WITH_WORK w_SqlText_Control_WITH_WORK) ?_
  refine own_aload_n X0 hx (hb hby d1_0) rfl rfl 1 rfl ?_
  refine own_getS X0 hx hZ hown (host := "") (Or.inl (own_w hw 15 rfl)) Via.refl e0 S_w_SqlText_Control_NONE (hb hby d1_1) 4 rfl fun T1 X1 e1 => ?_
  refine own_acmp X1 hx false (hb hby d1_4) rfl rfl (decide_eq_false fun q => (Ne.symm ne_w_SqlText_Control_NONE_w_SqlText_Control_WITH_WORK) (Value.ref.inj q)) 20 (by decide) (by decide) ?_
  refine own_getS X1 hx hZ hown (host := "") (Or.inl (own_w hw 16 rfl)) Via.refl e1 S_w_SqlText_Control_WITH_WORK (hb hby d1_20) 23 rfl fun T2 X2 e2 => ?_
  exact own_retA X2 hx hk hret rfl rfl (hb hby d1_23) rfl ⟨rfl, e2, rfl⟩ (by decide) (by decide)
theorem rm_then_9 (l : Launch) (Z : State) (a0 : Array Value) (hw : own_HW Z a0) (ws : List Jvm.Cond)  (h0 : Heap) (n0 : Nat) {w_SqlText_Control_NONE w_SqlText_Control_WITH_WORK w_SqlText_Control_ALONE : Addr} (H : own_C Z h0 w_SqlText_Control_NONE w_SqlText_Control_WITH_WORK w_SqlText_Control_ALONE) :
    own_Met l (⟨"com/example/maco/maco/adapter/SqlText$Control", "then", "(Lcom/example/maco/maco/adapter/SqlText$Control;)Lcom/example/maco/maco/adapter/SqlText$Control;"⟩ : MethodName) prog_15_method_4_code 2 (some (.object "com/example/maco/maco/adapter/SqlText$Control")) ws (own_rm 0 0 0 0) Z #[(.ref w_SqlText_Control_ALONE), (.ref w_SqlText_Control_WITH_WORK)] h0 (own_R (some (.ref w_SqlText_Control_WITH_WORK)) h0) := by
  refine own_met (plainFor_of_name pn_1) ?_
  intro p e s m below meth c T0 hx hby hml hown hret hk hnm hZ X0 e0
  have hown : s.vm.findClass "com/example/maco/maco/adapter/SqlText$Control" = some m.cls := hown
  obtain ⟨S_w_SqlText_Control_NONE, -, S_w_SqlText_Control_WITH_WORK, -, -, -, -, -, -, -, -, ne_w_SqlText_Control_ALONE_w_SqlText_Control_NONE⟩ := id H
  refine own_ent (ef_1 m w_SqlText_Control_ALONE w_SqlText_Control_WITH_WORK) ?_
  refine own_aload_n X0 hx (hb hby d1_0) rfl rfl 1 rfl ?_
  refine own_getS X0 hx hZ hown (host := "") (Or.inl (own_w hw 15 rfl)) Via.refl e0 S_w_SqlText_Control_NONE (hb hby d1_1) 4 rfl fun T1 X1 e1 => ?_
  refine own_acmp X1 hx false (hb hby d1_4) rfl rfl (decide_eq_false fun q => ne_w_SqlText_Control_ALONE_w_SqlText_Control_NONE (Value.ref.inj q)) 20 (by decide) (by decide) ?_
  refine own_getS X1 hx hZ hown (host := "") (Or.inl (own_w hw 16 rfl)) Via.refl e1 S_w_SqlText_Control_WITH_WORK (hb hby d1_20) 23 rfl fun T2 X2 e2 => ?_
  exact own_retA X2 hx hk hret rfl rfl (hb hby d1_23) rfl ⟨rfl, e2, rfl⟩ (by decide) (by decide)
theorem pd_0 : parseMethodDescriptor "(I)Lcom/example/maco/maco/adapter/SqlText$Control;" = some ⟨[.int], some (.object "com/example/maco/maco/adapter/SqlText$Control")⟩ := by decide +kernel
theorem pd_1 : parseMethodDescriptor "(Lcom/example/maco/maco/adapter/SqlText$Control;)Lcom/example/maco/maco/adapter/SqlText$Control;" = some ⟨[(.object "com/example/maco/maco/adapter/SqlText$Control")], some (.object "com/example/maco/maco/adapter/SqlText$Control")⟩ := by decide +kernel
theorem ef_2 (m : MethodId) (y0 : Int32) (y1 : Int32) (y2 : Int32) : entryFrame m #[(.int y0), (.int y1), (.int y2)] maxLocals = mkF m 0 #[.val (.int y0), .val (.int y1), .val (.int y2), .unset, .unset, .unset, .unset, .unset, .unset, .unset, .unset] [] := by first | (simp [entryFrame, mkF, argsToLocals, Value.category, maxLocals]; done) | rfl
theorem rm0 (l : Launch) (Z : State) (a0 : Array Value) (hw : own_HW Z a0) (ws : List Jvm.Cond) (x0 : Int32) (x1 : Int32) (x2 : Int32) (h0 : Heap) (n0 : Nat) {w_SqlText_Control_NONE w_SqlText_Control_WITH_WORK w_SqlText_Control_ALONE : Addr} (H : own_C Z h0 w_SqlText_Control_NONE w_SqlText_Control_WITH_WORK w_SqlText_Control_ALONE) :
    own_Met l x code maxLocals ret ws room_1 Z #[(.int x0), (.int x1), (.int x2)] h0 (own_Q0 n0) := by
  refine own_met (plainFor_of_name pn_0) ?_
  intro p e s m below meth c T0 hx hby hml hown hret hk hnm hZ X0 e0
  have hown : s.vm.findClass "com/example/maco/maco/adapter/ControlThenPinLaw" = some m.cls := hown
  obtain ⟨S_w_SqlText_Control_NONE, E_w_SqlText_Control_NONE, S_w_SqlText_Control_WITH_WORK, E_w_SqlText_Control_WITH_WORK, -, E_w_SqlText_Control_ALONE, -, -, -, ne_w_SqlText_Control_NONE_w_SqlText_Control_WITH_WORK, -, ne_w_SqlText_Control_ALONE_w_SqlText_Control_NONE⟩ := id H
  refine own_ent (ef_2 m x0 x1 x2) ?_
  rcases own_mod3 x0 with q1 | q1 | q1
  · skip
    rcases own_mod3 x1 with q2 | q2 | q2
    · skip
      rcases own_mod3 x2 with q3 | q3 | q3
      · skip
        refine own_iload_n X0 hx (hb hby at_0) rfl 1 rfl ?_
        refine own_pureS X0 hx hZ hown (own_w hw 0 rfl) (own_w hw 1 rfl) (own_w hw 2 rfl) (own_w hw 3 rfl) (by decide) [(.int x0)] [] 0 (rm_pick_0 l Z a0 hw [] x0 h0 n0 H q1) (by decide) (by decide) rfl rfl e0 (by rw [hml]; rfl) (lenOf pd_0 rfl) (Nat.le_of_eq rfl) (hb hby at_1) 4 rfl rfl (by decide) (by decide) fun T5 X5 e5 => ?_
        refine own_astore_n X5 hx (hb hby at_4) #[.val (.int x0), .val (.int x1), .val (.int x2), .val (.ref w_SqlText_Control_NONE), .unset, .unset, .unset, .unset, .unset, .unset, .unset] rfl rfl 5 rfl ?_
        refine own_iload_n X5 hx (hb hby at_5) rfl 6 rfl ?_
        refine own_pureS X5 hx hZ hown (own_w hw 0 rfl) (own_w hw 1 rfl) (own_w hw 2 rfl) (own_w hw 3 rfl) (by decide) [(.int x1)] [] 0 (rm_pick_0 l Z a0 hw [] x1 h0 n0 H q2) (by decide) (by decide) rfl rfl e5 (by rw [hml]; rfl) (lenOf pd_0 rfl) (Nat.le_of_eq rfl) (hb hby at_6) 9 rfl rfl (by decide) (by decide) fun T7 X7 e7 => ?_
        refine own_astore X7 hx (hb hby at_9) #[.val (.int x0), .val (.int x1), .val (.int x2), .val (.ref w_SqlText_Control_NONE), .val (.ref w_SqlText_Control_NONE), .unset, .unset, .unset, .unset, .unset, .unset] rfl rfl 11 rfl ?_
        refine own_iload_n X7 hx (hb hby at_11) rfl 12 rfl ?_
        refine own_pureS X7 hx hZ hown (own_w hw 0 rfl) (own_w hw 1 rfl) (own_w hw 2 rfl) (own_w hw 3 rfl) (by decide) [(.int x2)] [] 0 (rm_pick_0 l Z a0 hw [] x2 h0 n0 H q3) (by decide) (by decide) rfl rfl e7 (by rw [hml]; rfl) (lenOf pd_0 rfl) (Nat.le_of_eq rfl) (hb hby at_12) 15 rfl rfl (by decide) (by decide) fun T9 X9 e9 => ?_
        refine own_astore X9 hx (hb hby at_15) #[.val (.int x0), .val (.int x1), .val (.int x2), .val (.ref w_SqlText_Control_NONE), .val (.ref w_SqlText_Control_NONE), .val (.ref w_SqlText_Control_NONE), .unset, .unset, .unset, .unset, .unset] rfl rfl 17 rfl ?_
        refine own_aload_n X9 hx (hb hby at_17) rfl rfl 18 rfl ?_
        refine own_aload X9 hx (hb hby at_18) rfl rfl 20 rfl ?_
        refine own_pureV X9 hx hZ hown (own_w hw 10 rfl) (own_w hw 11 rfl) (notFace_of_selects (args := #[]) (mvT hZ (own_w hw 13 rfl))) (own_w hw 13 rfl) (own_w hw 12 rfl) (own_w hw 6 rfl) (own_w hw 14 rfl) (by decide) w_SqlText_Control_NONE [(.ref w_SqlText_Control_NONE)] [] 0 (rm_then_1 l Z a0 hw []  h0 n0 H) (by decide) (by decide) rfl rfl e9 E_w_SqlText_Control_NONE (by rw [hml]; rfl) (lenOf pd_1 rfl) (Nat.le_of_eq rfl) (hb hby at_20) 23 rfl rfl (by decide) (by decide) fun T11 X11 e11 => ?_
        refine own_astore X11 hx (hb hby at_23) #[.val (.int x0), .val (.int x1), .val (.int x2), .val (.ref w_SqlText_Control_NONE), .val (.ref w_SqlText_Control_NONE), .val (.ref w_SqlText_Control_NONE), .val (.ref w_SqlText_Control_NONE), .unset, .unset, .unset, .unset] rfl rfl 25 rfl ?_
        refine own_aload_n X11 hx (hb hby at_25) rfl rfl 26 rfl ?_
        refine own_getS X11 hx hZ hown (host := "") (Or.inl (own_w hw 5 rfl)) Via.refl e11 S_w_SqlText_Control_NONE (hb hby at_26) 29 rfl fun T12 X12 e12 => ?_
        refine own_acmp X12 hx true (hb hby at_29) rfl rfl (decide_eq_true rfl) 32 (by decide) (by decide) ?_
        refine own_aload X12 hx (hb hby at_32) rfl rfl 34 rfl ?_
        refine own_getS X12 hx hZ hown (host := "") (Or.inl (own_w hw 5 rfl)) Via.refl e12 S_w_SqlText_Control_NONE (hb hby at_34) 37 rfl fun T13 X13 e13 => ?_
        refine own_acmp X13 hx true (hb hby at_37) rfl rfl (decide_eq_true rfl) 40 (by decide) (by decide) ?_
        refine own_iconst X13 hx (hb hby at_40) (1 : Int32) rfl 41 rfl ?_
        refine own_goto X13 hx (hb hby at_41) 45 (by decide) (by decide) ?_
        refine own_istore X13 hx (hb hby at_45) #[.val (.int x0), .val (.int x1), .val (.int x2), .val (.ref w_SqlText_Control_NONE), .val (.ref w_SqlText_Control_NONE), .val (.ref w_SqlText_Control_NONE), .val (.ref w_SqlText_Control_NONE), .val (.int (1 : Int32)), .unset, .unset, .unset] rfl 47 rfl ?_
        refine own_iload X13 hx (hb hby at_47) rfl 49 rfl ?_
        refine own_ifN X13 hx (hb hby at_49) ((if0 _ _).trans (feq (by decide : ¬ ((1 : Int32) = (0 : Int32)))).1) 52 rfl ?_
        refine own_aload X13 hx (hb hby at_52) rfl rfl 54 rfl ?_
        refine own_getS X13 hx hZ hown (host := "") (Or.inl (own_w hw 5 rfl)) Via.refl e13 S_w_SqlText_Control_NONE (hb hby at_54) 57 rfl fun T14 X14 e14 => ?_
        refine own_acmp X14 hx true (hb hby at_57) rfl rfl (decide_eq_true rfl) 60 (by decide) (by decide) ?_
        refine own_iconst X14 hx (hb hby at_60) (1 : Int32) rfl 61 rfl ?_
        refine own_goto X14 hx (hb hby at_61) 65 (by decide) (by decide) ?_
        refine own_istore X14 hx (hb hby at_65) #[.val (.int x0), .val (.int x1), .val (.int x2), .val (.ref w_SqlText_Control_NONE), .val (.ref w_SqlText_Control_NONE), .val (.ref w_SqlText_Control_NONE), .val (.ref w_SqlText_Control_NONE), .val (.int (1 : Int32)), .val (.int (1 : Int32)), .unset, .unset] rfl 67 rfl ?_
        refine own_goto X14 hx (hb hby at_67) 85 (by decide) (by decide) ?_
        refine own_aload X14 hx (hb hby at_85) rfl rfl 87 rfl ?_
        refine own_aload X14 hx (hb hby at_87) rfl rfl 89 rfl ?_
        refine own_aload_n X14 hx (hb hby at_89) rfl rfl 90 rfl ?_
        refine own_pureV X14 hx hZ hown (own_w hw 10 rfl) (own_w hw 11 rfl) (notFace_of_selects (args := #[]) (mvT hZ (own_w hw 13 rfl))) (own_w hw 13 rfl) (own_w hw 12 rfl) (own_w hw 6 rfl) (own_w hw 14 rfl) (by decide) w_SqlText_Control_NONE [(.ref w_SqlText_Control_NONE)] [(.ref w_SqlText_Control_NONE)] 1 (rm_then_1 l Z a0 hw []  h0 n0 H) (by decide) (by decide) rfl rfl e14 E_w_SqlText_Control_NONE (by rw [hml]; rfl) (lenOf pd_1 rfl) (Nat.le_of_eq rfl) (hb hby at_90) 93 rfl rfl (by decide) (by decide) fun T16 X16 e16 => ?_
        refine own_acmp X16 hx true (hb hby at_93) rfl rfl (decide_eq_true rfl) 96 (by decide) (by decide) ?_
        refine own_iconst X16 hx (hb hby at_96) (1 : Int32) rfl 97 rfl ?_
        refine own_goto X16 hx (hb hby at_97) 101 (by decide) (by decide) ?_
        refine own_istore X16 hx (hb hby at_101) #[.val (.int x0), .val (.int x1), .val (.int x2), .val (.ref w_SqlText_Control_NONE), .val (.ref w_SqlText_Control_NONE), .val (.ref w_SqlText_Control_NONE), .val (.ref w_SqlText_Control_NONE), .val (.int (1 : Int32)), .val (.int (1 : Int32)), .val (.int (1 : Int32)), .unset] rfl 103 rfl ?_
        refine own_aload X16 hx (hb hby at_103) rfl rfl 105 rfl ?_
        refine own_aload X16 hx (hb hby at_105) rfl rfl 107 rfl ?_
        refine own_pureV X16 hx hZ hown (own_w hw 10 rfl) (own_w hw 11 rfl) (notFace_of_selects (args := #[]) (mvT hZ (own_w hw 13 rfl))) (own_w hw 13 rfl) (own_w hw 12 rfl) (own_w hw 6 rfl) (own_w hw 14 rfl) (by decide) w_SqlText_Control_NONE [(.ref w_SqlText_Control_NONE)] [] 0 (rm_then_1 l Z a0 hw []  h0 n0 H) (by decide) (by decide) rfl rfl e16 E_w_SqlText_Control_NONE (by rw [hml]; rfl) (lenOf pd_1 rfl) (Nat.le_of_eq rfl) (hb hby at_107) 110 rfl rfl (by decide) (by decide) fun T18 X18 e18 => ?_
        refine own_aload_n X18 hx (hb hby at_110) rfl rfl 111 rfl ?_
        refine own_aload X18 hx (hb hby at_111) rfl rfl 113 rfl ?_
        refine own_aload X18 hx (hb hby at_113) rfl rfl 115 rfl ?_
        refine own_pureV X18 hx hZ hown (own_w hw 10 rfl) (own_w hw 11 rfl) (notFace_of_selects (args := #[]) (mvT hZ (own_w hw 13 rfl))) (own_w hw 13 rfl) (own_w hw 12 rfl) (own_w hw 6 rfl) (own_w hw 14 rfl) (by decide) w_SqlText_Control_NONE [(.ref w_SqlText_Control_NONE)] [(.ref w_SqlText_Control_NONE), (.ref w_SqlText_Control_NONE)] 2 (rm_then_1 l Z a0 hw []  h0 n0 H) (by decide) (by decide) rfl rfl e18 E_w_SqlText_Control_NONE (by rw [hml]; rfl) (lenOf pd_1 rfl) (Nat.le_of_eq rfl) (hb hby at_115) 118 rfl rfl (by decide) (by decide) fun T20 X20 e20 => ?_
        refine own_pureV X20 hx hZ hown (own_w hw 10 rfl) (own_w hw 11 rfl) (notFace_of_selects (args := #[]) (mvT hZ (own_w hw 13 rfl))) (own_w hw 13 rfl) (own_w hw 12 rfl) (own_w hw 6 rfl) (own_w hw 14 rfl) (by decide) w_SqlText_Control_NONE [(.ref w_SqlText_Control_NONE)] [(.ref w_SqlText_Control_NONE)] 1 (rm_then_1 l Z a0 hw []  h0 n0 H) (by decide) (by decide) rfl rfl e20 E_w_SqlText_Control_NONE (by rw [hml]; rfl) (lenOf pd_1 rfl) (Nat.le_of_eq rfl) (hb hby at_118) 121 rfl rfl (by decide) (by decide) fun T22 X22 e22 => ?_
        refine own_acmp X22 hx true (hb hby at_121) rfl rfl (decide_eq_true rfl) 124 (by decide) (by decide) ?_
        refine own_iconst X22 hx (hb hby at_124) (1 : Int32) rfl 125 rfl ?_
        refine own_goto X22 hx (hb hby at_125) 129 (by decide) (by decide) ?_
        refine own_istore X22 hx (hb hby at_129) #[.val (.int x0), .val (.int x1), .val (.int x2), .val (.ref w_SqlText_Control_NONE), .val (.ref w_SqlText_Control_NONE), .val (.ref w_SqlText_Control_NONE), .val (.ref w_SqlText_Control_NONE), .val (.int (1 : Int32)), .val (.int (1 : Int32)), .val (.int (1 : Int32)), .val (.int (1 : Int32))] rfl 131 rfl ?_
        refine own_iload X22 hx (hb hby at_131) rfl 133 rfl ?_
        refine own_ifN X22 hx (hb hby at_133) ((if0 _ _).trans (feq (by decide : ¬ ((1 : Int32) = (0 : Int32)))).1) 136 rfl ?_
        refine own_iload X22 hx (hb hby at_136) rfl 138 rfl ?_
        refine own_ifN X22 hx (hb hby at_138) ((if0 _ _).trans (feq (by decide : ¬ ((1 : Int32) = (0 : Int32)))).1) 141 rfl ?_
        refine own_iload X22 hx (hb hby at_141) rfl 143 rfl ?_
        refine own_ifN X22 hx (hb hby at_143) ((if0 _ _).trans (feq (by decide : ¬ ((1 : Int32) = (0 : Int32)))).1) 146 rfl ?_
        refine own_iconst X22 hx (hb hby at_146) (1 : Int32) rfl 147 rfl ?_
        refine own_goto X22 hx (hb hby at_147) 151 (by decide) (by decide) ?_
        exact own_retZ X22 hx hk hret (hb hby at_151) rfl ⟨rfl, Fr.nil _⟩ (by decide) (by decide)
      · skip
        refine own_iload_n X0 hx (hb hby at_0) rfl 1 rfl ?_
        refine own_pureS X0 hx hZ hown (own_w hw 0 rfl) (own_w hw 1 rfl) (own_w hw 2 rfl) (own_w hw 3 rfl) (by decide) [(.int x0)] [] 0 (rm_pick_0 l Z a0 hw [] x0 h0 n0 H q1) (by decide) (by decide) rfl rfl e0 (by rw [hml]; rfl) (lenOf pd_0 rfl) (Nat.le_of_eq rfl) (hb hby at_1) 4 rfl rfl (by decide) (by decide) fun T24 X24 e24 => ?_
        refine own_astore_n X24 hx (hb hby at_4) #[.val (.int x0), .val (.int x1), .val (.int x2), .val (.ref w_SqlText_Control_NONE), .unset, .unset, .unset, .unset, .unset, .unset, .unset] rfl rfl 5 rfl ?_
        refine own_iload_n X24 hx (hb hby at_5) rfl 6 rfl ?_
        refine own_pureS X24 hx hZ hown (own_w hw 0 rfl) (own_w hw 1 rfl) (own_w hw 2 rfl) (own_w hw 3 rfl) (by decide) [(.int x1)] [] 0 (rm_pick_0 l Z a0 hw [] x1 h0 n0 H q2) (by decide) (by decide) rfl rfl e24 (by rw [hml]; rfl) (lenOf pd_0 rfl) (Nat.le_of_eq rfl) (hb hby at_6) 9 rfl rfl (by decide) (by decide) fun T26 X26 e26 => ?_
        refine own_astore X26 hx (hb hby at_9) #[.val (.int x0), .val (.int x1), .val (.int x2), .val (.ref w_SqlText_Control_NONE), .val (.ref w_SqlText_Control_NONE), .unset, .unset, .unset, .unset, .unset, .unset] rfl rfl 11 rfl ?_
        refine own_iload_n X26 hx (hb hby at_11) rfl 12 rfl ?_
        refine own_pureS X26 hx hZ hown (own_w hw 0 rfl) (own_w hw 1 rfl) (own_w hw 2 rfl) (own_w hw 3 rfl) (by decide) [(.int x2)] [] 0 (rm_pick_1 l Z a0 hw [] x2 h0 n0 H q3) (by decide) (by decide) rfl rfl e26 (by rw [hml]; rfl) (lenOf pd_0 rfl) (Nat.le_of_eq rfl) (hb hby at_12) 15 rfl rfl (by decide) (by decide) fun T28 X28 e28 => ?_
        refine own_astore X28 hx (hb hby at_15) #[.val (.int x0), .val (.int x1), .val (.int x2), .val (.ref w_SqlText_Control_NONE), .val (.ref w_SqlText_Control_NONE), .val (.ref w_SqlText_Control_ALONE), .unset, .unset, .unset, .unset, .unset] rfl rfl 17 rfl ?_
        refine own_aload_n X28 hx (hb hby at_17) rfl rfl 18 rfl ?_
        refine own_aload X28 hx (hb hby at_18) rfl rfl 20 rfl ?_
        refine own_pureV X28 hx hZ hown (own_w hw 10 rfl) (own_w hw 11 rfl) (notFace_of_selects (args := #[]) (mvT hZ (own_w hw 13 rfl))) (own_w hw 13 rfl) (own_w hw 12 rfl) (own_w hw 6 rfl) (own_w hw 14 rfl) (by decide) w_SqlText_Control_NONE [(.ref w_SqlText_Control_NONE)] [] 0 (rm_then_1 l Z a0 hw []  h0 n0 H) (by decide) (by decide) rfl rfl e28 E_w_SqlText_Control_NONE (by rw [hml]; rfl) (lenOf pd_1 rfl) (Nat.le_of_eq rfl) (hb hby at_20) 23 rfl rfl (by decide) (by decide) fun T30 X30 e30 => ?_
        refine own_astore X30 hx (hb hby at_23) #[.val (.int x0), .val (.int x1), .val (.int x2), .val (.ref w_SqlText_Control_NONE), .val (.ref w_SqlText_Control_NONE), .val (.ref w_SqlText_Control_ALONE), .val (.ref w_SqlText_Control_NONE), .unset, .unset, .unset, .unset] rfl rfl 25 rfl ?_
        refine own_aload_n X30 hx (hb hby at_25) rfl rfl 26 rfl ?_
        refine own_getS X30 hx hZ hown (host := "") (Or.inl (own_w hw 5 rfl)) Via.refl e30 S_w_SqlText_Control_NONE (hb hby at_26) 29 rfl fun T31 X31 e31 => ?_
        refine own_acmp X31 hx true (hb hby at_29) rfl rfl (decide_eq_true rfl) 32 (by decide) (by decide) ?_
        refine own_aload X31 hx (hb hby at_32) rfl rfl 34 rfl ?_
        refine own_getS X31 hx hZ hown (host := "") (Or.inl (own_w hw 5 rfl)) Via.refl e31 S_w_SqlText_Control_NONE (hb hby at_34) 37 rfl fun T32 X32 e32 => ?_
        refine own_acmp X32 hx true (hb hby at_37) rfl rfl (decide_eq_true rfl) 40 (by decide) (by decide) ?_
        refine own_iconst X32 hx (hb hby at_40) (1 : Int32) rfl 41 rfl ?_
        refine own_goto X32 hx (hb hby at_41) 45 (by decide) (by decide) ?_
        refine own_istore X32 hx (hb hby at_45) #[.val (.int x0), .val (.int x1), .val (.int x2), .val (.ref w_SqlText_Control_NONE), .val (.ref w_SqlText_Control_NONE), .val (.ref w_SqlText_Control_ALONE), .val (.ref w_SqlText_Control_NONE), .val (.int (1 : Int32)), .unset, .unset, .unset] rfl 47 rfl ?_
        refine own_iload X32 hx (hb hby at_47) rfl 49 rfl ?_
        refine own_ifN X32 hx (hb hby at_49) ((if0 _ _).trans (feq (by decide : ¬ ((1 : Int32) = (0 : Int32)))).1) 52 rfl ?_
        refine own_aload X32 hx (hb hby at_52) rfl rfl 54 rfl ?_
        refine own_getS X32 hx hZ hown (host := "") (Or.inl (own_w hw 5 rfl)) Via.refl e32 S_w_SqlText_Control_NONE (hb hby at_54) 57 rfl fun T33 X33 e33 => ?_
        refine own_acmp X33 hx true (hb hby at_57) rfl rfl (decide_eq_true rfl) 60 (by decide) (by decide) ?_
        refine own_iconst X33 hx (hb hby at_60) (1 : Int32) rfl 61 rfl ?_
        refine own_goto X33 hx (hb hby at_61) 65 (by decide) (by decide) ?_
        refine own_istore X33 hx (hb hby at_65) #[.val (.int x0), .val (.int x1), .val (.int x2), .val (.ref w_SqlText_Control_NONE), .val (.ref w_SqlText_Control_NONE), .val (.ref w_SqlText_Control_ALONE), .val (.ref w_SqlText_Control_NONE), .val (.int (1 : Int32)), .val (.int (1 : Int32)), .unset, .unset] rfl 67 rfl ?_
        refine own_goto X33 hx (hb hby at_67) 85 (by decide) (by decide) ?_
        refine own_aload X33 hx (hb hby at_85) rfl rfl 87 rfl ?_
        refine own_aload X33 hx (hb hby at_87) rfl rfl 89 rfl ?_
        refine own_aload_n X33 hx (hb hby at_89) rfl rfl 90 rfl ?_
        refine own_pureV X33 hx hZ hown (own_w hw 10 rfl) (own_w hw 11 rfl) (notFace_of_selects (args := #[]) (mvT hZ (own_w hw 13 rfl))) (own_w hw 13 rfl) (own_w hw 12 rfl) (own_w hw 6 rfl) (own_w hw 14 rfl) (by decide) w_SqlText_Control_NONE [(.ref w_SqlText_Control_NONE)] [(.ref w_SqlText_Control_NONE)] 1 (rm_then_1 l Z a0 hw []  h0 n0 H) (by decide) (by decide) rfl rfl e33 E_w_SqlText_Control_NONE (by rw [hml]; rfl) (lenOf pd_1 rfl) (Nat.le_of_eq rfl) (hb hby at_90) 93 rfl rfl (by decide) (by decide) fun T35 X35 e35 => ?_
        refine own_acmp X35 hx true (hb hby at_93) rfl rfl (decide_eq_true rfl) 96 (by decide) (by decide) ?_
        refine own_iconst X35 hx (hb hby at_96) (1 : Int32) rfl 97 rfl ?_
        refine own_goto X35 hx (hb hby at_97) 101 (by decide) (by decide) ?_
        refine own_istore X35 hx (hb hby at_101) #[.val (.int x0), .val (.int x1), .val (.int x2), .val (.ref w_SqlText_Control_NONE), .val (.ref w_SqlText_Control_NONE), .val (.ref w_SqlText_Control_ALONE), .val (.ref w_SqlText_Control_NONE), .val (.int (1 : Int32)), .val (.int (1 : Int32)), .val (.int (1 : Int32)), .unset] rfl 103 rfl ?_
        refine own_aload X35 hx (hb hby at_103) rfl rfl 105 rfl ?_
        refine own_aload X35 hx (hb hby at_105) rfl rfl 107 rfl ?_
        refine own_pureV X35 hx hZ hown (own_w hw 10 rfl) (own_w hw 11 rfl) (notFace_of_selects (args := #[]) (mvT hZ (own_w hw 13 rfl))) (own_w hw 13 rfl) (own_w hw 12 rfl) (own_w hw 6 rfl) (own_w hw 14 rfl) (by decide) w_SqlText_Control_NONE [(.ref w_SqlText_Control_ALONE)] [] 0 (rm_then_2 l Z a0 hw []  h0 n0 H) (by decide) (by decide) rfl rfl e35 E_w_SqlText_Control_NONE (by rw [hml]; rfl) (lenOf pd_1 rfl) (Nat.le_of_eq rfl) (hb hby at_107) 110 rfl rfl (by decide) (by decide) fun T37 X37 e37 => ?_
        refine own_aload_n X37 hx (hb hby at_110) rfl rfl 111 rfl ?_
        refine own_aload X37 hx (hb hby at_111) rfl rfl 113 rfl ?_
        refine own_aload X37 hx (hb hby at_113) rfl rfl 115 rfl ?_
        refine own_pureV X37 hx hZ hown (own_w hw 10 rfl) (own_w hw 11 rfl) (notFace_of_selects (args := #[]) (mvT hZ (own_w hw 13 rfl))) (own_w hw 13 rfl) (own_w hw 12 rfl) (own_w hw 6 rfl) (own_w hw 14 rfl) (by decide) w_SqlText_Control_NONE [(.ref w_SqlText_Control_ALONE)] [(.ref w_SqlText_Control_NONE), (.ref w_SqlText_Control_WITH_WORK)] 2 (rm_then_2 l Z a0 hw []  h0 n0 H) (by decide) (by decide) rfl rfl e37 E_w_SqlText_Control_NONE (by rw [hml]; rfl) (lenOf pd_1 rfl) (Nat.le_of_eq rfl) (hb hby at_115) 118 rfl rfl (by decide) (by decide) fun T39 X39 e39 => ?_
        refine own_pureV X39 hx hZ hown (own_w hw 10 rfl) (own_w hw 11 rfl) (notFace_of_selects (args := #[]) (mvT hZ (own_w hw 13 rfl))) (own_w hw 13 rfl) (own_w hw 12 rfl) (own_w hw 6 rfl) (own_w hw 14 rfl) (by decide) w_SqlText_Control_NONE [(.ref w_SqlText_Control_WITH_WORK)] [(.ref w_SqlText_Control_WITH_WORK)] 1 (rm_then_3 l Z a0 hw []  h0 n0 H) (by decide) (by decide) rfl rfl e39 E_w_SqlText_Control_NONE (by rw [hml]; rfl) (lenOf pd_1 rfl) (Nat.le_of_eq rfl) (hb hby at_118) 121 rfl rfl (by decide) (by decide) fun T41 X41 e41 => ?_
        refine own_acmp X41 hx true (hb hby at_121) rfl rfl (decide_eq_true rfl) 124 (by decide) (by decide) ?_
        refine own_iconst X41 hx (hb hby at_124) (1 : Int32) rfl 125 rfl ?_
        refine own_goto X41 hx (hb hby at_125) 129 (by decide) (by decide) ?_
        refine own_istore X41 hx (hb hby at_129) #[.val (.int x0), .val (.int x1), .val (.int x2), .val (.ref w_SqlText_Control_NONE), .val (.ref w_SqlText_Control_NONE), .val (.ref w_SqlText_Control_ALONE), .val (.ref w_SqlText_Control_NONE), .val (.int (1 : Int32)), .val (.int (1 : Int32)), .val (.int (1 : Int32)), .val (.int (1 : Int32))] rfl 131 rfl ?_
        refine own_iload X41 hx (hb hby at_131) rfl 133 rfl ?_
        refine own_ifN X41 hx (hb hby at_133) ((if0 _ _).trans (feq (by decide : ¬ ((1 : Int32) = (0 : Int32)))).1) 136 rfl ?_
        refine own_iload X41 hx (hb hby at_136) rfl 138 rfl ?_
        refine own_ifN X41 hx (hb hby at_138) ((if0 _ _).trans (feq (by decide : ¬ ((1 : Int32) = (0 : Int32)))).1) 141 rfl ?_
        refine own_iload X41 hx (hb hby at_141) rfl 143 rfl ?_
        refine own_ifN X41 hx (hb hby at_143) ((if0 _ _).trans (feq (by decide : ¬ ((1 : Int32) = (0 : Int32)))).1) 146 rfl ?_
        refine own_iconst X41 hx (hb hby at_146) (1 : Int32) rfl 147 rfl ?_
        refine own_goto X41 hx (hb hby at_147) 151 (by decide) (by decide) ?_
        exact own_retZ X41 hx hk hret (hb hby at_151) rfl ⟨rfl, Fr.nil _⟩ (by decide) (by decide)
      · skip
        refine own_iload_n X0 hx (hb hby at_0) rfl 1 rfl ?_
        refine own_pureS X0 hx hZ hown (own_w hw 0 rfl) (own_w hw 1 rfl) (own_w hw 2 rfl) (own_w hw 3 rfl) (by decide) [(.int x0)] [] 0 (rm_pick_0 l Z a0 hw [] x0 h0 n0 H q1) (by decide) (by decide) rfl rfl e0 (by rw [hml]; rfl) (lenOf pd_0 rfl) (Nat.le_of_eq rfl) (hb hby at_1) 4 rfl rfl (by decide) (by decide) fun T43 X43 e43 => ?_
        refine own_astore_n X43 hx (hb hby at_4) #[.val (.int x0), .val (.int x1), .val (.int x2), .val (.ref w_SqlText_Control_NONE), .unset, .unset, .unset, .unset, .unset, .unset, .unset] rfl rfl 5 rfl ?_
        refine own_iload_n X43 hx (hb hby at_5) rfl 6 rfl ?_
        refine own_pureS X43 hx hZ hown (own_w hw 0 rfl) (own_w hw 1 rfl) (own_w hw 2 rfl) (own_w hw 3 rfl) (by decide) [(.int x1)] [] 0 (rm_pick_0 l Z a0 hw [] x1 h0 n0 H q2) (by decide) (by decide) rfl rfl e43 (by rw [hml]; rfl) (lenOf pd_0 rfl) (Nat.le_of_eq rfl) (hb hby at_6) 9 rfl rfl (by decide) (by decide) fun T45 X45 e45 => ?_
        refine own_astore X45 hx (hb hby at_9) #[.val (.int x0), .val (.int x1), .val (.int x2), .val (.ref w_SqlText_Control_NONE), .val (.ref w_SqlText_Control_NONE), .unset, .unset, .unset, .unset, .unset, .unset] rfl rfl 11 rfl ?_
        refine own_iload_n X45 hx (hb hby at_11) rfl 12 rfl ?_
        refine own_pureS X45 hx hZ hown (own_w hw 0 rfl) (own_w hw 1 rfl) (own_w hw 2 rfl) (own_w hw 3 rfl) (by decide) [(.int x2)] [] 0 (rm_pick_2 l Z a0 hw [] x2 h0 n0 H q3) (by decide) (by decide) rfl rfl e45 (by rw [hml]; rfl) (lenOf pd_0 rfl) (Nat.le_of_eq rfl) (hb hby at_12) 15 rfl rfl (by decide) (by decide) fun T47 X47 e47 => ?_
        refine own_astore X47 hx (hb hby at_15) #[.val (.int x0), .val (.int x1), .val (.int x2), .val (.ref w_SqlText_Control_NONE), .val (.ref w_SqlText_Control_NONE), .val (.ref w_SqlText_Control_WITH_WORK), .unset, .unset, .unset, .unset, .unset] rfl rfl 17 rfl ?_
        refine own_aload_n X47 hx (hb hby at_17) rfl rfl 18 rfl ?_
        refine own_aload X47 hx (hb hby at_18) rfl rfl 20 rfl ?_
        refine own_pureV X47 hx hZ hown (own_w hw 10 rfl) (own_w hw 11 rfl) (notFace_of_selects (args := #[]) (mvT hZ (own_w hw 13 rfl))) (own_w hw 13 rfl) (own_w hw 12 rfl) (own_w hw 6 rfl) (own_w hw 14 rfl) (by decide) w_SqlText_Control_NONE [(.ref w_SqlText_Control_NONE)] [] 0 (rm_then_1 l Z a0 hw []  h0 n0 H) (by decide) (by decide) rfl rfl e47 E_w_SqlText_Control_NONE (by rw [hml]; rfl) (lenOf pd_1 rfl) (Nat.le_of_eq rfl) (hb hby at_20) 23 rfl rfl (by decide) (by decide) fun T49 X49 e49 => ?_
        refine own_astore X49 hx (hb hby at_23) #[.val (.int x0), .val (.int x1), .val (.int x2), .val (.ref w_SqlText_Control_NONE), .val (.ref w_SqlText_Control_NONE), .val (.ref w_SqlText_Control_WITH_WORK), .val (.ref w_SqlText_Control_NONE), .unset, .unset, .unset, .unset] rfl rfl 25 rfl ?_
        refine own_aload_n X49 hx (hb hby at_25) rfl rfl 26 rfl ?_
        refine own_getS X49 hx hZ hown (host := "") (Or.inl (own_w hw 5 rfl)) Via.refl e49 S_w_SqlText_Control_NONE (hb hby at_26) 29 rfl fun T50 X50 e50 => ?_
        refine own_acmp X50 hx true (hb hby at_29) rfl rfl (decide_eq_true rfl) 32 (by decide) (by decide) ?_
        refine own_aload X50 hx (hb hby at_32) rfl rfl 34 rfl ?_
        refine own_getS X50 hx hZ hown (host := "") (Or.inl (own_w hw 5 rfl)) Via.refl e50 S_w_SqlText_Control_NONE (hb hby at_34) 37 rfl fun T51 X51 e51 => ?_
        refine own_acmp X51 hx true (hb hby at_37) rfl rfl (decide_eq_true rfl) 40 (by decide) (by decide) ?_
        refine own_iconst X51 hx (hb hby at_40) (1 : Int32) rfl 41 rfl ?_
        refine own_goto X51 hx (hb hby at_41) 45 (by decide) (by decide) ?_
        refine own_istore X51 hx (hb hby at_45) #[.val (.int x0), .val (.int x1), .val (.int x2), .val (.ref w_SqlText_Control_NONE), .val (.ref w_SqlText_Control_NONE), .val (.ref w_SqlText_Control_WITH_WORK), .val (.ref w_SqlText_Control_NONE), .val (.int (1 : Int32)), .unset, .unset, .unset] rfl 47 rfl ?_
        refine own_iload X51 hx (hb hby at_47) rfl 49 rfl ?_
        refine own_ifN X51 hx (hb hby at_49) ((if0 _ _).trans (feq (by decide : ¬ ((1 : Int32) = (0 : Int32)))).1) 52 rfl ?_
        refine own_aload X51 hx (hb hby at_52) rfl rfl 54 rfl ?_
        refine own_getS X51 hx hZ hown (host := "") (Or.inl (own_w hw 5 rfl)) Via.refl e51 S_w_SqlText_Control_NONE (hb hby at_54) 57 rfl fun T52 X52 e52 => ?_
        refine own_acmp X52 hx true (hb hby at_57) rfl rfl (decide_eq_true rfl) 60 (by decide) (by decide) ?_
        refine own_iconst X52 hx (hb hby at_60) (1 : Int32) rfl 61 rfl ?_
        refine own_goto X52 hx (hb hby at_61) 65 (by decide) (by decide) ?_
        refine own_istore X52 hx (hb hby at_65) #[.val (.int x0), .val (.int x1), .val (.int x2), .val (.ref w_SqlText_Control_NONE), .val (.ref w_SqlText_Control_NONE), .val (.ref w_SqlText_Control_WITH_WORK), .val (.ref w_SqlText_Control_NONE), .val (.int (1 : Int32)), .val (.int (1 : Int32)), .unset, .unset] rfl 67 rfl ?_
        refine own_goto X52 hx (hb hby at_67) 85 (by decide) (by decide) ?_
        refine own_aload X52 hx (hb hby at_85) rfl rfl 87 rfl ?_
        refine own_aload X52 hx (hb hby at_87) rfl rfl 89 rfl ?_
        refine own_aload_n X52 hx (hb hby at_89) rfl rfl 90 rfl ?_
        refine own_pureV X52 hx hZ hown (own_w hw 10 rfl) (own_w hw 11 rfl) (notFace_of_selects (args := #[]) (mvT hZ (own_w hw 13 rfl))) (own_w hw 13 rfl) (own_w hw 12 rfl) (own_w hw 6 rfl) (own_w hw 14 rfl) (by decide) w_SqlText_Control_NONE [(.ref w_SqlText_Control_NONE)] [(.ref w_SqlText_Control_NONE)] 1 (rm_then_1 l Z a0 hw []  h0 n0 H) (by decide) (by decide) rfl rfl e52 E_w_SqlText_Control_NONE (by rw [hml]; rfl) (lenOf pd_1 rfl) (Nat.le_of_eq rfl) (hb hby at_90) 93 rfl rfl (by decide) (by decide) fun T54 X54 e54 => ?_
        refine own_acmp X54 hx true (hb hby at_93) rfl rfl (decide_eq_true rfl) 96 (by decide) (by decide) ?_
        refine own_iconst X54 hx (hb hby at_96) (1 : Int32) rfl 97 rfl ?_
        refine own_goto X54 hx (hb hby at_97) 101 (by decide) (by decide) ?_
        refine own_istore X54 hx (hb hby at_101) #[.val (.int x0), .val (.int x1), .val (.int x2), .val (.ref w_SqlText_Control_NONE), .val (.ref w_SqlText_Control_NONE), .val (.ref w_SqlText_Control_WITH_WORK), .val (.ref w_SqlText_Control_NONE), .val (.int (1 : Int32)), .val (.int (1 : Int32)), .val (.int (1 : Int32)), .unset] rfl 103 rfl ?_
        refine own_aload X54 hx (hb hby at_103) rfl rfl 105 rfl ?_
        refine own_aload X54 hx (hb hby at_105) rfl rfl 107 rfl ?_
        refine own_pureV X54 hx hZ hown (own_w hw 10 rfl) (own_w hw 11 rfl) (notFace_of_selects (args := #[]) (mvT hZ (own_w hw 13 rfl))) (own_w hw 13 rfl) (own_w hw 12 rfl) (own_w hw 6 rfl) (own_w hw 14 rfl) (by decide) w_SqlText_Control_NONE [(.ref w_SqlText_Control_WITH_WORK)] [] 0 (rm_then_3 l Z a0 hw []  h0 n0 H) (by decide) (by decide) rfl rfl e54 E_w_SqlText_Control_NONE (by rw [hml]; rfl) (lenOf pd_1 rfl) (Nat.le_of_eq rfl) (hb hby at_107) 110 rfl rfl (by decide) (by decide) fun T56 X56 e56 => ?_
        refine own_aload_n X56 hx (hb hby at_110) rfl rfl 111 rfl ?_
        refine own_aload X56 hx (hb hby at_111) rfl rfl 113 rfl ?_
        refine own_aload X56 hx (hb hby at_113) rfl rfl 115 rfl ?_
        refine own_pureV X56 hx hZ hown (own_w hw 10 rfl) (own_w hw 11 rfl) (notFace_of_selects (args := #[]) (mvT hZ (own_w hw 13 rfl))) (own_w hw 13 rfl) (own_w hw 12 rfl) (own_w hw 6 rfl) (own_w hw 14 rfl) (by decide) w_SqlText_Control_NONE [(.ref w_SqlText_Control_WITH_WORK)] [(.ref w_SqlText_Control_NONE), (.ref w_SqlText_Control_WITH_WORK)] 2 (rm_then_3 l Z a0 hw []  h0 n0 H) (by decide) (by decide) rfl rfl e56 E_w_SqlText_Control_NONE (by rw [hml]; rfl) (lenOf pd_1 rfl) (Nat.le_of_eq rfl) (hb hby at_115) 118 rfl rfl (by decide) (by decide) fun T58 X58 e58 => ?_
        refine own_pureV X58 hx hZ hown (own_w hw 10 rfl) (own_w hw 11 rfl) (notFace_of_selects (args := #[]) (mvT hZ (own_w hw 13 rfl))) (own_w hw 13 rfl) (own_w hw 12 rfl) (own_w hw 6 rfl) (own_w hw 14 rfl) (by decide) w_SqlText_Control_NONE [(.ref w_SqlText_Control_WITH_WORK)] [(.ref w_SqlText_Control_WITH_WORK)] 1 (rm_then_3 l Z a0 hw []  h0 n0 H) (by decide) (by decide) rfl rfl e58 E_w_SqlText_Control_NONE (by rw [hml]; rfl) (lenOf pd_1 rfl) (Nat.le_of_eq rfl) (hb hby at_118) 121 rfl rfl (by decide) (by decide) fun T60 X60 e60 => ?_
        refine own_acmp X60 hx true (hb hby at_121) rfl rfl (decide_eq_true rfl) 124 (by decide) (by decide) ?_
        refine own_iconst X60 hx (hb hby at_124) (1 : Int32) rfl 125 rfl ?_
        refine own_goto X60 hx (hb hby at_125) 129 (by decide) (by decide) ?_
        refine own_istore X60 hx (hb hby at_129) #[.val (.int x0), .val (.int x1), .val (.int x2), .val (.ref w_SqlText_Control_NONE), .val (.ref w_SqlText_Control_NONE), .val (.ref w_SqlText_Control_WITH_WORK), .val (.ref w_SqlText_Control_NONE), .val (.int (1 : Int32)), .val (.int (1 : Int32)), .val (.int (1 : Int32)), .val (.int (1 : Int32))] rfl 131 rfl ?_
        refine own_iload X60 hx (hb hby at_131) rfl 133 rfl ?_
        refine own_ifN X60 hx (hb hby at_133) ((if0 _ _).trans (feq (by decide : ¬ ((1 : Int32) = (0 : Int32)))).1) 136 rfl ?_
        refine own_iload X60 hx (hb hby at_136) rfl 138 rfl ?_
        refine own_ifN X60 hx (hb hby at_138) ((if0 _ _).trans (feq (by decide : ¬ ((1 : Int32) = (0 : Int32)))).1) 141 rfl ?_
        refine own_iload X60 hx (hb hby at_141) rfl 143 rfl ?_
        refine own_ifN X60 hx (hb hby at_143) ((if0 _ _).trans (feq (by decide : ¬ ((1 : Int32) = (0 : Int32)))).1) 146 rfl ?_
        refine own_iconst X60 hx (hb hby at_146) (1 : Int32) rfl 147 rfl ?_
        refine own_goto X60 hx (hb hby at_147) 151 (by decide) (by decide) ?_
        exact own_retZ X60 hx hk hret (hb hby at_151) rfl ⟨rfl, Fr.nil _⟩ (by decide) (by decide)
    · skip
      rcases own_mod3 x2 with q61 | q61 | q61
      · skip
        refine own_iload_n X0 hx (hb hby at_0) rfl 1 rfl ?_
        refine own_pureS X0 hx hZ hown (own_w hw 0 rfl) (own_w hw 1 rfl) (own_w hw 2 rfl) (own_w hw 3 rfl) (by decide) [(.int x0)] [] 0 (rm_pick_0 l Z a0 hw [] x0 h0 n0 H q1) (by decide) (by decide) rfl rfl e0 (by rw [hml]; rfl) (lenOf pd_0 rfl) (Nat.le_of_eq rfl) (hb hby at_1) 4 rfl rfl (by decide) (by decide) fun T63 X63 e63 => ?_
        refine own_astore_n X63 hx (hb hby at_4) #[.val (.int x0), .val (.int x1), .val (.int x2), .val (.ref w_SqlText_Control_NONE), .unset, .unset, .unset, .unset, .unset, .unset, .unset] rfl rfl 5 rfl ?_
        refine own_iload_n X63 hx (hb hby at_5) rfl 6 rfl ?_
        refine own_pureS X63 hx hZ hown (own_w hw 0 rfl) (own_w hw 1 rfl) (own_w hw 2 rfl) (own_w hw 3 rfl) (by decide) [(.int x1)] [] 0 (rm_pick_1 l Z a0 hw [] x1 h0 n0 H q2) (by decide) (by decide) rfl rfl e63 (by rw [hml]; rfl) (lenOf pd_0 rfl) (Nat.le_of_eq rfl) (hb hby at_6) 9 rfl rfl (by decide) (by decide) fun T65 X65 e65 => ?_
        refine own_astore X65 hx (hb hby at_9) #[.val (.int x0), .val (.int x1), .val (.int x2), .val (.ref w_SqlText_Control_NONE), .val (.ref w_SqlText_Control_ALONE), .unset, .unset, .unset, .unset, .unset, .unset] rfl rfl 11 rfl ?_
        refine own_iload_n X65 hx (hb hby at_11) rfl 12 rfl ?_
        refine own_pureS X65 hx hZ hown (own_w hw 0 rfl) (own_w hw 1 rfl) (own_w hw 2 rfl) (own_w hw 3 rfl) (by decide) [(.int x2)] [] 0 (rm_pick_0 l Z a0 hw [] x2 h0 n0 H q61) (by decide) (by decide) rfl rfl e65 (by rw [hml]; rfl) (lenOf pd_0 rfl) (Nat.le_of_eq rfl) (hb hby at_12) 15 rfl rfl (by decide) (by decide) fun T67 X67 e67 => ?_
        refine own_astore X67 hx (hb hby at_15) #[.val (.int x0), .val (.int x1), .val (.int x2), .val (.ref w_SqlText_Control_NONE), .val (.ref w_SqlText_Control_ALONE), .val (.ref w_SqlText_Control_NONE), .unset, .unset, .unset, .unset, .unset] rfl rfl 17 rfl ?_
        refine own_aload_n X67 hx (hb hby at_17) rfl rfl 18 rfl ?_
        refine own_aload X67 hx (hb hby at_18) rfl rfl 20 rfl ?_
        refine own_pureV X67 hx hZ hown (own_w hw 10 rfl) (own_w hw 11 rfl) (notFace_of_selects (args := #[]) (mvT hZ (own_w hw 13 rfl))) (own_w hw 13 rfl) (own_w hw 12 rfl) (own_w hw 6 rfl) (own_w hw 14 rfl) (by decide) w_SqlText_Control_NONE [(.ref w_SqlText_Control_ALONE)] [] 0 (rm_then_2 l Z a0 hw []  h0 n0 H) (by decide) (by decide) rfl rfl e67 E_w_SqlText_Control_NONE (by rw [hml]; rfl) (lenOf pd_1 rfl) (Nat.le_of_eq rfl) (hb hby at_20) 23 rfl rfl (by decide) (by decide) fun T69 X69 e69 => ?_
        refine own_astore X69 hx (hb hby at_23) #[.val (.int x0), .val (.int x1), .val (.int x2), .val (.ref w_SqlText_Control_NONE), .val (.ref w_SqlText_Control_ALONE), .val (.ref w_SqlText_Control_NONE), .val (.ref w_SqlText_Control_WITH_WORK), .unset, .unset, .unset, .unset] rfl rfl 25 rfl ?_
        refine own_aload_n X69 hx (hb hby at_25) rfl rfl 26 rfl ?_
        refine own_getS X69 hx hZ hown (host := "") (Or.inl (own_w hw 5 rfl)) Via.refl e69 S_w_SqlText_Control_NONE (hb hby at_26) 29 rfl fun T70 X70 e70 => ?_
        refine own_acmp X70 hx true (hb hby at_29) rfl rfl (decide_eq_true rfl) 32 (by decide) (by decide) ?_
        refine own_aload X70 hx (hb hby at_32) rfl rfl 34 rfl ?_
        refine own_getS X70 hx hZ hown (host := "") (Or.inl (own_w hw 5 rfl)) Via.refl e70 S_w_SqlText_Control_NONE (hb hby at_34) 37 rfl fun T71 X71 e71 => ?_
        refine own_acmp X71 hx false (hb hby at_37) rfl rfl (decide_eq_false fun q => ne_w_SqlText_Control_ALONE_w_SqlText_Control_NONE (Value.ref.inj q)) 44 (by decide) (by decide) ?_
        refine own_iconst X71 hx (hb hby at_44) (0 : Int32) rfl 45 rfl ?_
        refine own_istore X71 hx (hb hby at_45) #[.val (.int x0), .val (.int x1), .val (.int x2), .val (.ref w_SqlText_Control_NONE), .val (.ref w_SqlText_Control_ALONE), .val (.ref w_SqlText_Control_NONE), .val (.ref w_SqlText_Control_WITH_WORK), .val (.int (0 : Int32)), .unset, .unset, .unset] rfl 47 rfl ?_
        refine own_iload X71 hx (hb hby at_47) rfl 49 rfl ?_
        refine own_ifY X71 hx (hb hby at_49) ((if0 _ _).trans (teq (by decide : (0 : Int32) = (0 : Int32))).1) 70 (by decide) (by decide) ?_
        refine own_aload X71 hx (hb hby at_70) rfl rfl 72 rfl ?_
        refine own_getS X71 hx hZ hown (host := "") (Or.inl (own_w hw 8 rfl)) Via.refl e71 S_w_SqlText_Control_WITH_WORK (hb hby at_72) 75 rfl fun T72 X72 e72 => ?_
        refine own_acmp X72 hx true (hb hby at_75) rfl rfl (decide_eq_true rfl) 78 (by decide) (by decide) ?_
        refine own_iconst X72 hx (hb hby at_78) (1 : Int32) rfl 79 rfl ?_
        refine own_goto X72 hx (hb hby at_79) 83 (by decide) (by decide) ?_
        refine own_istore X72 hx (hb hby at_83) #[.val (.int x0), .val (.int x1), .val (.int x2), .val (.ref w_SqlText_Control_NONE), .val (.ref w_SqlText_Control_ALONE), .val (.ref w_SqlText_Control_NONE), .val (.ref w_SqlText_Control_WITH_WORK), .val (.int (0 : Int32)), .val (.int (1 : Int32)), .unset, .unset] rfl 85 rfl ?_
        refine own_aload X72 hx (hb hby at_85) rfl rfl 87 rfl ?_
        refine own_aload X72 hx (hb hby at_87) rfl rfl 89 rfl ?_
        refine own_aload_n X72 hx (hb hby at_89) rfl rfl 90 rfl ?_
        refine own_pureV X72 hx hZ hown (own_w hw 10 rfl) (own_w hw 11 rfl) (notFace_of_selects (args := #[]) (mvT hZ (own_w hw 13 rfl))) (own_w hw 13 rfl) (own_w hw 12 rfl) (own_w hw 6 rfl) (own_w hw 14 rfl) (by decide) w_SqlText_Control_ALONE [(.ref w_SqlText_Control_NONE)] [(.ref w_SqlText_Control_WITH_WORK)] 1 (rm_then_4 l Z a0 hw []  h0 n0 H) (by decide) (by decide) rfl rfl e72 E_w_SqlText_Control_ALONE (by rw [hml]; rfl) (lenOf pd_1 rfl) (Nat.le_of_eq rfl) (hb hby at_90) 93 rfl rfl (by decide) (by decide) fun T74 X74 e74 => ?_
        refine own_acmp X74 hx true (hb hby at_93) rfl rfl (decide_eq_true rfl) 96 (by decide) (by decide) ?_
        refine own_iconst X74 hx (hb hby at_96) (1 : Int32) rfl 97 rfl ?_
        refine own_goto X74 hx (hb hby at_97) 101 (by decide) (by decide) ?_
        refine own_istore X74 hx (hb hby at_101) #[.val (.int x0), .val (.int x1), .val (.int x2), .val (.ref w_SqlText_Control_NONE), .val (.ref w_SqlText_Control_ALONE), .val (.ref w_SqlText_Control_NONE), .val (.ref w_SqlText_Control_WITH_WORK), .val (.int (0 : Int32)), .val (.int (1 : Int32)), .val (.int (1 : Int32)), .unset] rfl 103 rfl ?_
        refine own_aload X74 hx (hb hby at_103) rfl rfl 105 rfl ?_
        refine own_aload X74 hx (hb hby at_105) rfl rfl 107 rfl ?_
        refine own_pureV X74 hx hZ hown (own_w hw 10 rfl) (own_w hw 11 rfl) (notFace_of_selects (args := #[]) (mvT hZ (own_w hw 13 rfl))) (own_w hw 13 rfl) (own_w hw 12 rfl) (own_w hw 6 rfl) (own_w hw 14 rfl) (by decide) w_SqlText_Control_WITH_WORK [(.ref w_SqlText_Control_NONE)] [] 0 (rm_then_5 l Z a0 hw []  h0 n0 H) (by decide) (by decide) rfl rfl e74 E_w_SqlText_Control_WITH_WORK (by rw [hml]; rfl) (lenOf pd_1 rfl) (Nat.le_of_eq rfl) (hb hby at_107) 110 rfl rfl (by decide) (by decide) fun T76 X76 e76 => ?_
        refine own_aload_n X76 hx (hb hby at_110) rfl rfl 111 rfl ?_
        refine own_aload X76 hx (hb hby at_111) rfl rfl 113 rfl ?_
        refine own_aload X76 hx (hb hby at_113) rfl rfl 115 rfl ?_
        refine own_pureV X76 hx hZ hown (own_w hw 10 rfl) (own_w hw 11 rfl) (notFace_of_selects (args := #[]) (mvT hZ (own_w hw 13 rfl))) (own_w hw 13 rfl) (own_w hw 12 rfl) (own_w hw 6 rfl) (own_w hw 14 rfl) (by decide) w_SqlText_Control_ALONE [(.ref w_SqlText_Control_NONE)] [(.ref w_SqlText_Control_NONE), (.ref w_SqlText_Control_WITH_WORK)] 2 (rm_then_4 l Z a0 hw []  h0 n0 H) (by decide) (by decide) rfl rfl e76 E_w_SqlText_Control_ALONE (by rw [hml]; rfl) (lenOf pd_1 rfl) (Nat.le_of_eq rfl) (hb hby at_115) 118 rfl rfl (by decide) (by decide) fun T78 X78 e78 => ?_
        refine own_pureV X78 hx hZ hown (own_w hw 10 rfl) (own_w hw 11 rfl) (notFace_of_selects (args := #[]) (mvT hZ (own_w hw 13 rfl))) (own_w hw 13 rfl) (own_w hw 12 rfl) (own_w hw 6 rfl) (own_w hw 14 rfl) (by decide) w_SqlText_Control_NONE [(.ref w_SqlText_Control_WITH_WORK)] [(.ref w_SqlText_Control_WITH_WORK)] 1 (rm_then_3 l Z a0 hw []  h0 n0 H) (by decide) (by decide) rfl rfl e78 E_w_SqlText_Control_NONE (by rw [hml]; rfl) (lenOf pd_1 rfl) (Nat.le_of_eq rfl) (hb hby at_118) 121 rfl rfl (by decide) (by decide) fun T80 X80 e80 => ?_
        refine own_acmp X80 hx true (hb hby at_121) rfl rfl (decide_eq_true rfl) 124 (by decide) (by decide) ?_
        refine own_iconst X80 hx (hb hby at_124) (1 : Int32) rfl 125 rfl ?_
        refine own_goto X80 hx (hb hby at_125) 129 (by decide) (by decide) ?_
        refine own_istore X80 hx (hb hby at_129) #[.val (.int x0), .val (.int x1), .val (.int x2), .val (.ref w_SqlText_Control_NONE), .val (.ref w_SqlText_Control_ALONE), .val (.ref w_SqlText_Control_NONE), .val (.ref w_SqlText_Control_WITH_WORK), .val (.int (0 : Int32)), .val (.int (1 : Int32)), .val (.int (1 : Int32)), .val (.int (1 : Int32))] rfl 131 rfl ?_
        refine own_iload X80 hx (hb hby at_131) rfl 133 rfl ?_
        refine own_ifN X80 hx (hb hby at_133) ((if0 _ _).trans (feq (by decide : ¬ ((1 : Int32) = (0 : Int32)))).1) 136 rfl ?_
        refine own_iload X80 hx (hb hby at_136) rfl 138 rfl ?_
        refine own_ifN X80 hx (hb hby at_138) ((if0 _ _).trans (feq (by decide : ¬ ((1 : Int32) = (0 : Int32)))).1) 141 rfl ?_
        refine own_iload X80 hx (hb hby at_141) rfl 143 rfl ?_
        refine own_ifN X80 hx (hb hby at_143) ((if0 _ _).trans (feq (by decide : ¬ ((1 : Int32) = (0 : Int32)))).1) 146 rfl ?_
        refine own_iconst X80 hx (hb hby at_146) (1 : Int32) rfl 147 rfl ?_
        refine own_goto X80 hx (hb hby at_147) 151 (by decide) (by decide) ?_
        exact own_retZ X80 hx hk hret (hb hby at_151) rfl ⟨rfl, Fr.nil _⟩ (by decide) (by decide)
      · skip
        refine own_iload_n X0 hx (hb hby at_0) rfl 1 rfl ?_
        refine own_pureS X0 hx hZ hown (own_w hw 0 rfl) (own_w hw 1 rfl) (own_w hw 2 rfl) (own_w hw 3 rfl) (by decide) [(.int x0)] [] 0 (rm_pick_0 l Z a0 hw [] x0 h0 n0 H q1) (by decide) (by decide) rfl rfl e0 (by rw [hml]; rfl) (lenOf pd_0 rfl) (Nat.le_of_eq rfl) (hb hby at_1) 4 rfl rfl (by decide) (by decide) fun T82 X82 e82 => ?_
        refine own_astore_n X82 hx (hb hby at_4) #[.val (.int x0), .val (.int x1), .val (.int x2), .val (.ref w_SqlText_Control_NONE), .unset, .unset, .unset, .unset, .unset, .unset, .unset] rfl rfl 5 rfl ?_
        refine own_iload_n X82 hx (hb hby at_5) rfl 6 rfl ?_
        refine own_pureS X82 hx hZ hown (own_w hw 0 rfl) (own_w hw 1 rfl) (own_w hw 2 rfl) (own_w hw 3 rfl) (by decide) [(.int x1)] [] 0 (rm_pick_1 l Z a0 hw [] x1 h0 n0 H q2) (by decide) (by decide) rfl rfl e82 (by rw [hml]; rfl) (lenOf pd_0 rfl) (Nat.le_of_eq rfl) (hb hby at_6) 9 rfl rfl (by decide) (by decide) fun T84 X84 e84 => ?_
        refine own_astore X84 hx (hb hby at_9) #[.val (.int x0), .val (.int x1), .val (.int x2), .val (.ref w_SqlText_Control_NONE), .val (.ref w_SqlText_Control_ALONE), .unset, .unset, .unset, .unset, .unset, .unset] rfl rfl 11 rfl ?_
        refine own_iload_n X84 hx (hb hby at_11) rfl 12 rfl ?_
        refine own_pureS X84 hx hZ hown (own_w hw 0 rfl) (own_w hw 1 rfl) (own_w hw 2 rfl) (own_w hw 3 rfl) (by decide) [(.int x2)] [] 0 (rm_pick_1 l Z a0 hw [] x2 h0 n0 H q61) (by decide) (by decide) rfl rfl e84 (by rw [hml]; rfl) (lenOf pd_0 rfl) (Nat.le_of_eq rfl) (hb hby at_12) 15 rfl rfl (by decide) (by decide) fun T86 X86 e86 => ?_
        refine own_astore X86 hx (hb hby at_15) #[.val (.int x0), .val (.int x1), .val (.int x2), .val (.ref w_SqlText_Control_NONE), .val (.ref w_SqlText_Control_ALONE), .val (.ref w_SqlText_Control_ALONE), .unset, .unset, .unset, .unset, .unset] rfl rfl 17 rfl ?_
        refine own_aload_n X86 hx (hb hby at_17) rfl rfl 18 rfl ?_
        refine own_aload X86 hx (hb hby at_18) rfl rfl 20 rfl ?_
        refine own_pureV X86 hx hZ hown (own_w hw 10 rfl) (own_w hw 11 rfl) (notFace_of_selects (args := #[]) (mvT hZ (own_w hw 13 rfl))) (own_w hw 13 rfl) (own_w hw 12 rfl) (own_w hw 6 rfl) (own_w hw 14 rfl) (by decide) w_SqlText_Control_NONE [(.ref w_SqlText_Control_ALONE)] [] 0 (rm_then_2 l Z a0 hw []  h0 n0 H) (by decide) (by decide) rfl rfl e86 E_w_SqlText_Control_NONE (by rw [hml]; rfl) (lenOf pd_1 rfl) (Nat.le_of_eq rfl) (hb hby at_20) 23 rfl rfl (by decide) (by decide) fun T88 X88 e88 => ?_
        refine own_astore X88 hx (hb hby at_23) #[.val (.int x0), .val (.int x1), .val (.int x2), .val (.ref w_SqlText_Control_NONE), .val (.ref w_SqlText_Control_ALONE), .val (.ref w_SqlText_Control_ALONE), .val (.ref w_SqlText_Control_WITH_WORK), .unset, .unset, .unset, .unset] rfl rfl 25 rfl ?_
        refine own_aload_n X88 hx (hb hby at_25) rfl rfl 26 rfl ?_
        refine own_getS X88 hx hZ hown (host := "") (Or.inl (own_w hw 5 rfl)) Via.refl e88 S_w_SqlText_Control_NONE (hb hby at_26) 29 rfl fun T89 X89 e89 => ?_
        refine own_acmp X89 hx true (hb hby at_29) rfl rfl (decide_eq_true rfl) 32 (by decide) (by decide) ?_
        refine own_aload X89 hx (hb hby at_32) rfl rfl 34 rfl ?_
        refine own_getS X89 hx hZ hown (host := "") (Or.inl (own_w hw 5 rfl)) Via.refl e89 S_w_SqlText_Control_NONE (hb hby at_34) 37 rfl fun T90 X90 e90 => ?_
        refine own_acmp X90 hx false (hb hby at_37) rfl rfl (decide_eq_false fun q => ne_w_SqlText_Control_ALONE_w_SqlText_Control_NONE (Value.ref.inj q)) 44 (by decide) (by decide) ?_
        refine own_iconst X90 hx (hb hby at_44) (0 : Int32) rfl 45 rfl ?_
        refine own_istore X90 hx (hb hby at_45) #[.val (.int x0), .val (.int x1), .val (.int x2), .val (.ref w_SqlText_Control_NONE), .val (.ref w_SqlText_Control_ALONE), .val (.ref w_SqlText_Control_ALONE), .val (.ref w_SqlText_Control_WITH_WORK), .val (.int (0 : Int32)), .unset, .unset, .unset] rfl 47 rfl ?_
        refine own_iload X90 hx (hb hby at_47) rfl 49 rfl ?_
        refine own_ifY X90 hx (hb hby at_49) ((if0 _ _).trans (teq (by decide : (0 : Int32) = (0 : Int32))).1) 70 (by decide) (by decide) ?_
        refine own_aload X90 hx (hb hby at_70) rfl rfl 72 rfl ?_
        refine own_getS X90 hx hZ hown (host := "") (Or.inl (own_w hw 8 rfl)) Via.refl e90 S_w_SqlText_Control_WITH_WORK (hb hby at_72) 75 rfl fun T91 X91 e91 => ?_
        refine own_acmp X91 hx true (hb hby at_75) rfl rfl (decide_eq_true rfl) 78 (by decide) (by decide) ?_
        refine own_iconst X91 hx (hb hby at_78) (1 : Int32) rfl 79 rfl ?_
        refine own_goto X91 hx (hb hby at_79) 83 (by decide) (by decide) ?_
        refine own_istore X91 hx (hb hby at_83) #[.val (.int x0), .val (.int x1), .val (.int x2), .val (.ref w_SqlText_Control_NONE), .val (.ref w_SqlText_Control_ALONE), .val (.ref w_SqlText_Control_ALONE), .val (.ref w_SqlText_Control_WITH_WORK), .val (.int (0 : Int32)), .val (.int (1 : Int32)), .unset, .unset] rfl 85 rfl ?_
        refine own_aload X91 hx (hb hby at_85) rfl rfl 87 rfl ?_
        refine own_aload X91 hx (hb hby at_87) rfl rfl 89 rfl ?_
        refine own_aload_n X91 hx (hb hby at_89) rfl rfl 90 rfl ?_
        refine own_pureV X91 hx hZ hown (own_w hw 10 rfl) (own_w hw 11 rfl) (notFace_of_selects (args := #[]) (mvT hZ (own_w hw 13 rfl))) (own_w hw 13 rfl) (own_w hw 12 rfl) (own_w hw 6 rfl) (own_w hw 14 rfl) (by decide) w_SqlText_Control_ALONE [(.ref w_SqlText_Control_NONE)] [(.ref w_SqlText_Control_WITH_WORK)] 1 (rm_then_4 l Z a0 hw []  h0 n0 H) (by decide) (by decide) rfl rfl e91 E_w_SqlText_Control_ALONE (by rw [hml]; rfl) (lenOf pd_1 rfl) (Nat.le_of_eq rfl) (hb hby at_90) 93 rfl rfl (by decide) (by decide) fun T93 X93 e93 => ?_
        refine own_acmp X93 hx true (hb hby at_93) rfl rfl (decide_eq_true rfl) 96 (by decide) (by decide) ?_
        refine own_iconst X93 hx (hb hby at_96) (1 : Int32) rfl 97 rfl ?_
        refine own_goto X93 hx (hb hby at_97) 101 (by decide) (by decide) ?_
        refine own_istore X93 hx (hb hby at_101) #[.val (.int x0), .val (.int x1), .val (.int x2), .val (.ref w_SqlText_Control_NONE), .val (.ref w_SqlText_Control_ALONE), .val (.ref w_SqlText_Control_ALONE), .val (.ref w_SqlText_Control_WITH_WORK), .val (.int (0 : Int32)), .val (.int (1 : Int32)), .val (.int (1 : Int32)), .unset] rfl 103 rfl ?_
        refine own_aload X93 hx (hb hby at_103) rfl rfl 105 rfl ?_
        refine own_aload X93 hx (hb hby at_105) rfl rfl 107 rfl ?_
        refine own_pureV X93 hx hZ hown (own_w hw 10 rfl) (own_w hw 11 rfl) (notFace_of_selects (args := #[]) (mvT hZ (own_w hw 13 rfl))) (own_w hw 13 rfl) (own_w hw 12 rfl) (own_w hw 6 rfl) (own_w hw 14 rfl) (by decide) w_SqlText_Control_WITH_WORK [(.ref w_SqlText_Control_ALONE)] [] 0 (rm_then_6 l Z a0 hw []  h0 n0 H) (by decide) (by decide) rfl rfl e93 E_w_SqlText_Control_WITH_WORK (by rw [hml]; rfl) (lenOf pd_1 rfl) (Nat.le_of_eq rfl) (hb hby at_107) 110 rfl rfl (by decide) (by decide) fun T95 X95 e95 => ?_
        refine own_aload_n X95 hx (hb hby at_110) rfl rfl 111 rfl ?_
        refine own_aload X95 hx (hb hby at_111) rfl rfl 113 rfl ?_
        refine own_aload X95 hx (hb hby at_113) rfl rfl 115 rfl ?_
        refine own_pureV X95 hx hZ hown (own_w hw 10 rfl) (own_w hw 11 rfl) (notFace_of_selects (args := #[]) (mvT hZ (own_w hw 13 rfl))) (own_w hw 13 rfl) (own_w hw 12 rfl) (own_w hw 6 rfl) (own_w hw 14 rfl) (by decide) w_SqlText_Control_ALONE [(.ref w_SqlText_Control_ALONE)] [(.ref w_SqlText_Control_NONE), (.ref w_SqlText_Control_WITH_WORK)] 2 (rm_then_7 l Z a0 hw []  h0 n0 H) (by decide) (by decide) rfl rfl e95 E_w_SqlText_Control_ALONE (by rw [hml]; rfl) (lenOf pd_1 rfl) (Nat.le_of_eq rfl) (hb hby at_115) 118 rfl rfl (by decide) (by decide) fun T97 X97 e97 => ?_
        refine own_pureV X97 hx hZ hown (own_w hw 10 rfl) (own_w hw 11 rfl) (notFace_of_selects (args := #[]) (mvT hZ (own_w hw 13 rfl))) (own_w hw 13 rfl) (own_w hw 12 rfl) (own_w hw 6 rfl) (own_w hw 14 rfl) (by decide) w_SqlText_Control_NONE [(.ref w_SqlText_Control_WITH_WORK)] [(.ref w_SqlText_Control_WITH_WORK)] 1 (rm_then_3 l Z a0 hw []  h0 n0 H) (by decide) (by decide) rfl rfl e97 E_w_SqlText_Control_NONE (by rw [hml]; rfl) (lenOf pd_1 rfl) (Nat.le_of_eq rfl) (hb hby at_118) 121 rfl rfl (by decide) (by decide) fun T99 X99 e99 => ?_
        refine own_acmp X99 hx true (hb hby at_121) rfl rfl (decide_eq_true rfl) 124 (by decide) (by decide) ?_
        refine own_iconst X99 hx (hb hby at_124) (1 : Int32) rfl 125 rfl ?_
        refine own_goto X99 hx (hb hby at_125) 129 (by decide) (by decide) ?_
        refine own_istore X99 hx (hb hby at_129) #[.val (.int x0), .val (.int x1), .val (.int x2), .val (.ref w_SqlText_Control_NONE), .val (.ref w_SqlText_Control_ALONE), .val (.ref w_SqlText_Control_ALONE), .val (.ref w_SqlText_Control_WITH_WORK), .val (.int (0 : Int32)), .val (.int (1 : Int32)), .val (.int (1 : Int32)), .val (.int (1 : Int32))] rfl 131 rfl ?_
        refine own_iload X99 hx (hb hby at_131) rfl 133 rfl ?_
        refine own_ifN X99 hx (hb hby at_133) ((if0 _ _).trans (feq (by decide : ¬ ((1 : Int32) = (0 : Int32)))).1) 136 rfl ?_
        refine own_iload X99 hx (hb hby at_136) rfl 138 rfl ?_
        refine own_ifN X99 hx (hb hby at_138) ((if0 _ _).trans (feq (by decide : ¬ ((1 : Int32) = (0 : Int32)))).1) 141 rfl ?_
        refine own_iload X99 hx (hb hby at_141) rfl 143 rfl ?_
        refine own_ifN X99 hx (hb hby at_143) ((if0 _ _).trans (feq (by decide : ¬ ((1 : Int32) = (0 : Int32)))).1) 146 rfl ?_
        refine own_iconst X99 hx (hb hby at_146) (1 : Int32) rfl 147 rfl ?_
        refine own_goto X99 hx (hb hby at_147) 151 (by decide) (by decide) ?_
        exact own_retZ X99 hx hk hret (hb hby at_151) rfl ⟨rfl, Fr.nil _⟩ (by decide) (by decide)
      · skip
        refine own_iload_n X0 hx (hb hby at_0) rfl 1 rfl ?_
        refine own_pureS X0 hx hZ hown (own_w hw 0 rfl) (own_w hw 1 rfl) (own_w hw 2 rfl) (own_w hw 3 rfl) (by decide) [(.int x0)] [] 0 (rm_pick_0 l Z a0 hw [] x0 h0 n0 H q1) (by decide) (by decide) rfl rfl e0 (by rw [hml]; rfl) (lenOf pd_0 rfl) (Nat.le_of_eq rfl) (hb hby at_1) 4 rfl rfl (by decide) (by decide) fun T101 X101 e101 => ?_
        refine own_astore_n X101 hx (hb hby at_4) #[.val (.int x0), .val (.int x1), .val (.int x2), .val (.ref w_SqlText_Control_NONE), .unset, .unset, .unset, .unset, .unset, .unset, .unset] rfl rfl 5 rfl ?_
        refine own_iload_n X101 hx (hb hby at_5) rfl 6 rfl ?_
        refine own_pureS X101 hx hZ hown (own_w hw 0 rfl) (own_w hw 1 rfl) (own_w hw 2 rfl) (own_w hw 3 rfl) (by decide) [(.int x1)] [] 0 (rm_pick_1 l Z a0 hw [] x1 h0 n0 H q2) (by decide) (by decide) rfl rfl e101 (by rw [hml]; rfl) (lenOf pd_0 rfl) (Nat.le_of_eq rfl) (hb hby at_6) 9 rfl rfl (by decide) (by decide) fun T103 X103 e103 => ?_
        refine own_astore X103 hx (hb hby at_9) #[.val (.int x0), .val (.int x1), .val (.int x2), .val (.ref w_SqlText_Control_NONE), .val (.ref w_SqlText_Control_ALONE), .unset, .unset, .unset, .unset, .unset, .unset] rfl rfl 11 rfl ?_
        refine own_iload_n X103 hx (hb hby at_11) rfl 12 rfl ?_
        refine own_pureS X103 hx hZ hown (own_w hw 0 rfl) (own_w hw 1 rfl) (own_w hw 2 rfl) (own_w hw 3 rfl) (by decide) [(.int x2)] [] 0 (rm_pick_2 l Z a0 hw [] x2 h0 n0 H q61) (by decide) (by decide) rfl rfl e103 (by rw [hml]; rfl) (lenOf pd_0 rfl) (Nat.le_of_eq rfl) (hb hby at_12) 15 rfl rfl (by decide) (by decide) fun T105 X105 e105 => ?_
        refine own_astore X105 hx (hb hby at_15) #[.val (.int x0), .val (.int x1), .val (.int x2), .val (.ref w_SqlText_Control_NONE), .val (.ref w_SqlText_Control_ALONE), .val (.ref w_SqlText_Control_WITH_WORK), .unset, .unset, .unset, .unset, .unset] rfl rfl 17 rfl ?_
        refine own_aload_n X105 hx (hb hby at_17) rfl rfl 18 rfl ?_
        refine own_aload X105 hx (hb hby at_18) rfl rfl 20 rfl ?_
        refine own_pureV X105 hx hZ hown (own_w hw 10 rfl) (own_w hw 11 rfl) (notFace_of_selects (args := #[]) (mvT hZ (own_w hw 13 rfl))) (own_w hw 13 rfl) (own_w hw 12 rfl) (own_w hw 6 rfl) (own_w hw 14 rfl) (by decide) w_SqlText_Control_NONE [(.ref w_SqlText_Control_ALONE)] [] 0 (rm_then_2 l Z a0 hw []  h0 n0 H) (by decide) (by decide) rfl rfl e105 E_w_SqlText_Control_NONE (by rw [hml]; rfl) (lenOf pd_1 rfl) (Nat.le_of_eq rfl) (hb hby at_20) 23 rfl rfl (by decide) (by decide) fun T107 X107 e107 => ?_
        refine own_astore X107 hx (hb hby at_23) #[.val (.int x0), .val (.int x1), .val (.int x2), .val (.ref w_SqlText_Control_NONE), .val (.ref w_SqlText_Control_ALONE), .val (.ref w_SqlText_Control_WITH_WORK), .val (.ref w_SqlText_Control_WITH_WORK), .unset, .unset, .unset, .unset] rfl rfl 25 rfl ?_
        refine own_aload_n X107 hx (hb hby at_25) rfl rfl 26 rfl ?_
        refine own_getS X107 hx hZ hown (host := "") (Or.inl (own_w hw 5 rfl)) Via.refl e107 S_w_SqlText_Control_NONE (hb hby at_26) 29 rfl fun T108 X108 e108 => ?_
        refine own_acmp X108 hx true (hb hby at_29) rfl rfl (decide_eq_true rfl) 32 (by decide) (by decide) ?_
        refine own_aload X108 hx (hb hby at_32) rfl rfl 34 rfl ?_
        refine own_getS X108 hx hZ hown (host := "") (Or.inl (own_w hw 5 rfl)) Via.refl e108 S_w_SqlText_Control_NONE (hb hby at_34) 37 rfl fun T109 X109 e109 => ?_
        refine own_acmp X109 hx false (hb hby at_37) rfl rfl (decide_eq_false fun q => ne_w_SqlText_Control_ALONE_w_SqlText_Control_NONE (Value.ref.inj q)) 44 (by decide) (by decide) ?_
        refine own_iconst X109 hx (hb hby at_44) (0 : Int32) rfl 45 rfl ?_
        refine own_istore X109 hx (hb hby at_45) #[.val (.int x0), .val (.int x1), .val (.int x2), .val (.ref w_SqlText_Control_NONE), .val (.ref w_SqlText_Control_ALONE), .val (.ref w_SqlText_Control_WITH_WORK), .val (.ref w_SqlText_Control_WITH_WORK), .val (.int (0 : Int32)), .unset, .unset, .unset] rfl 47 rfl ?_
        refine own_iload X109 hx (hb hby at_47) rfl 49 rfl ?_
        refine own_ifY X109 hx (hb hby at_49) ((if0 _ _).trans (teq (by decide : (0 : Int32) = (0 : Int32))).1) 70 (by decide) (by decide) ?_
        refine own_aload X109 hx (hb hby at_70) rfl rfl 72 rfl ?_
        refine own_getS X109 hx hZ hown (host := "") (Or.inl (own_w hw 8 rfl)) Via.refl e109 S_w_SqlText_Control_WITH_WORK (hb hby at_72) 75 rfl fun T110 X110 e110 => ?_
        refine own_acmp X110 hx true (hb hby at_75) rfl rfl (decide_eq_true rfl) 78 (by decide) (by decide) ?_
        refine own_iconst X110 hx (hb hby at_78) (1 : Int32) rfl 79 rfl ?_
        refine own_goto X110 hx (hb hby at_79) 83 (by decide) (by decide) ?_
        refine own_istore X110 hx (hb hby at_83) #[.val (.int x0), .val (.int x1), .val (.int x2), .val (.ref w_SqlText_Control_NONE), .val (.ref w_SqlText_Control_ALONE), .val (.ref w_SqlText_Control_WITH_WORK), .val (.ref w_SqlText_Control_WITH_WORK), .val (.int (0 : Int32)), .val (.int (1 : Int32)), .unset, .unset] rfl 85 rfl ?_
        refine own_aload X110 hx (hb hby at_85) rfl rfl 87 rfl ?_
        refine own_aload X110 hx (hb hby at_87) rfl rfl 89 rfl ?_
        refine own_aload_n X110 hx (hb hby at_89) rfl rfl 90 rfl ?_
        refine own_pureV X110 hx hZ hown (own_w hw 10 rfl) (own_w hw 11 rfl) (notFace_of_selects (args := #[]) (mvT hZ (own_w hw 13 rfl))) (own_w hw 13 rfl) (own_w hw 12 rfl) (own_w hw 6 rfl) (own_w hw 14 rfl) (by decide) w_SqlText_Control_ALONE [(.ref w_SqlText_Control_NONE)] [(.ref w_SqlText_Control_WITH_WORK)] 1 (rm_then_4 l Z a0 hw []  h0 n0 H) (by decide) (by decide) rfl rfl e110 E_w_SqlText_Control_ALONE (by rw [hml]; rfl) (lenOf pd_1 rfl) (Nat.le_of_eq rfl) (hb hby at_90) 93 rfl rfl (by decide) (by decide) fun T112 X112 e112 => ?_
        refine own_acmp X112 hx true (hb hby at_93) rfl rfl (decide_eq_true rfl) 96 (by decide) (by decide) ?_
        refine own_iconst X112 hx (hb hby at_96) (1 : Int32) rfl 97 rfl ?_
        refine own_goto X112 hx (hb hby at_97) 101 (by decide) (by decide) ?_
        refine own_istore X112 hx (hb hby at_101) #[.val (.int x0), .val (.int x1), .val (.int x2), .val (.ref w_SqlText_Control_NONE), .val (.ref w_SqlText_Control_ALONE), .val (.ref w_SqlText_Control_WITH_WORK), .val (.ref w_SqlText_Control_WITH_WORK), .val (.int (0 : Int32)), .val (.int (1 : Int32)), .val (.int (1 : Int32)), .unset] rfl 103 rfl ?_
        refine own_aload X112 hx (hb hby at_103) rfl rfl 105 rfl ?_
        refine own_aload X112 hx (hb hby at_105) rfl rfl 107 rfl ?_
        refine own_pureV X112 hx hZ hown (own_w hw 10 rfl) (own_w hw 11 rfl) (notFace_of_selects (args := #[]) (mvT hZ (own_w hw 13 rfl))) (own_w hw 13 rfl) (own_w hw 12 rfl) (own_w hw 6 rfl) (own_w hw 14 rfl) (by decide) w_SqlText_Control_WITH_WORK [(.ref w_SqlText_Control_WITH_WORK)] [] 0 (rm_then_8 l Z a0 hw []  h0 n0 H) (by decide) (by decide) rfl rfl e112 E_w_SqlText_Control_WITH_WORK (by rw [hml]; rfl) (lenOf pd_1 rfl) (Nat.le_of_eq rfl) (hb hby at_107) 110 rfl rfl (by decide) (by decide) fun T114 X114 e114 => ?_
        refine own_aload_n X114 hx (hb hby at_110) rfl rfl 111 rfl ?_
        refine own_aload X114 hx (hb hby at_111) rfl rfl 113 rfl ?_
        refine own_aload X114 hx (hb hby at_113) rfl rfl 115 rfl ?_
        refine own_pureV X114 hx hZ hown (own_w hw 10 rfl) (own_w hw 11 rfl) (notFace_of_selects (args := #[]) (mvT hZ (own_w hw 13 rfl))) (own_w hw 13 rfl) (own_w hw 12 rfl) (own_w hw 6 rfl) (own_w hw 14 rfl) (by decide) w_SqlText_Control_ALONE [(.ref w_SqlText_Control_WITH_WORK)] [(.ref w_SqlText_Control_NONE), (.ref w_SqlText_Control_WITH_WORK)] 2 (rm_then_9 l Z a0 hw []  h0 n0 H) (by decide) (by decide) rfl rfl e114 E_w_SqlText_Control_ALONE (by rw [hml]; rfl) (lenOf pd_1 rfl) (Nat.le_of_eq rfl) (hb hby at_115) 118 rfl rfl (by decide) (by decide) fun T116 X116 e116 => ?_
        refine own_pureV X116 hx hZ hown (own_w hw 10 rfl) (own_w hw 11 rfl) (notFace_of_selects (args := #[]) (mvT hZ (own_w hw 13 rfl))) (own_w hw 13 rfl) (own_w hw 12 rfl) (own_w hw 6 rfl) (own_w hw 14 rfl) (by decide) w_SqlText_Control_NONE [(.ref w_SqlText_Control_WITH_WORK)] [(.ref w_SqlText_Control_WITH_WORK)] 1 (rm_then_3 l Z a0 hw []  h0 n0 H) (by decide) (by decide) rfl rfl e116 E_w_SqlText_Control_NONE (by rw [hml]; rfl) (lenOf pd_1 rfl) (Nat.le_of_eq rfl) (hb hby at_118) 121 rfl rfl (by decide) (by decide) fun T118 X118 e118 => ?_
        refine own_acmp X118 hx true (hb hby at_121) rfl rfl (decide_eq_true rfl) 124 (by decide) (by decide) ?_
        refine own_iconst X118 hx (hb hby at_124) (1 : Int32) rfl 125 rfl ?_
        refine own_goto X118 hx (hb hby at_125) 129 (by decide) (by decide) ?_
        refine own_istore X118 hx (hb hby at_129) #[.val (.int x0), .val (.int x1), .val (.int x2), .val (.ref w_SqlText_Control_NONE), .val (.ref w_SqlText_Control_ALONE), .val (.ref w_SqlText_Control_WITH_WORK), .val (.ref w_SqlText_Control_WITH_WORK), .val (.int (0 : Int32)), .val (.int (1 : Int32)), .val (.int (1 : Int32)), .val (.int (1 : Int32))] rfl 131 rfl ?_
        refine own_iload X118 hx (hb hby at_131) rfl 133 rfl ?_
        refine own_ifN X118 hx (hb hby at_133) ((if0 _ _).trans (feq (by decide : ¬ ((1 : Int32) = (0 : Int32)))).1) 136 rfl ?_
        refine own_iload X118 hx (hb hby at_136) rfl 138 rfl ?_
        refine own_ifN X118 hx (hb hby at_138) ((if0 _ _).trans (feq (by decide : ¬ ((1 : Int32) = (0 : Int32)))).1) 141 rfl ?_
        refine own_iload X118 hx (hb hby at_141) rfl 143 rfl ?_
        refine own_ifN X118 hx (hb hby at_143) ((if0 _ _).trans (feq (by decide : ¬ ((1 : Int32) = (0 : Int32)))).1) 146 rfl ?_
        refine own_iconst X118 hx (hb hby at_146) (1 : Int32) rfl 147 rfl ?_
        refine own_goto X118 hx (hb hby at_147) 151 (by decide) (by decide) ?_
        exact own_retZ X118 hx hk hret (hb hby at_151) rfl ⟨rfl, Fr.nil _⟩ (by decide) (by decide)
    · skip
      rcases own_mod3 x2 with q119 | q119 | q119
      · skip
        refine own_iload_n X0 hx (hb hby at_0) rfl 1 rfl ?_
        refine own_pureS X0 hx hZ hown (own_w hw 0 rfl) (own_w hw 1 rfl) (own_w hw 2 rfl) (own_w hw 3 rfl) (by decide) [(.int x0)] [] 0 (rm_pick_0 l Z a0 hw [] x0 h0 n0 H q1) (by decide) (by decide) rfl rfl e0 (by rw [hml]; rfl) (lenOf pd_0 rfl) (Nat.le_of_eq rfl) (hb hby at_1) 4 rfl rfl (by decide) (by decide) fun T121 X121 e121 => ?_
        refine own_astore_n X121 hx (hb hby at_4) #[.val (.int x0), .val (.int x1), .val (.int x2), .val (.ref w_SqlText_Control_NONE), .unset, .unset, .unset, .unset, .unset, .unset, .unset] rfl rfl 5 rfl ?_
        refine own_iload_n X121 hx (hb hby at_5) rfl 6 rfl ?_
        refine own_pureS X121 hx hZ hown (own_w hw 0 rfl) (own_w hw 1 rfl) (own_w hw 2 rfl) (own_w hw 3 rfl) (by decide) [(.int x1)] [] 0 (rm_pick_2 l Z a0 hw [] x1 h0 n0 H q2) (by decide) (by decide) rfl rfl e121 (by rw [hml]; rfl) (lenOf pd_0 rfl) (Nat.le_of_eq rfl) (hb hby at_6) 9 rfl rfl (by decide) (by decide) fun T123 X123 e123 => ?_
        refine own_astore X123 hx (hb hby at_9) #[.val (.int x0), .val (.int x1), .val (.int x2), .val (.ref w_SqlText_Control_NONE), .val (.ref w_SqlText_Control_WITH_WORK), .unset, .unset, .unset, .unset, .unset, .unset] rfl rfl 11 rfl ?_
        refine own_iload_n X123 hx (hb hby at_11) rfl 12 rfl ?_
        refine own_pureS X123 hx hZ hown (own_w hw 0 rfl) (own_w hw 1 rfl) (own_w hw 2 rfl) (own_w hw 3 rfl) (by decide) [(.int x2)] [] 0 (rm_pick_0 l Z a0 hw [] x2 h0 n0 H q119) (by decide) (by decide) rfl rfl e123 (by rw [hml]; rfl) (lenOf pd_0 rfl) (Nat.le_of_eq rfl) (hb hby at_12) 15 rfl rfl (by decide) (by decide) fun T125 X125 e125 => ?_
        refine own_astore X125 hx (hb hby at_15) #[.val (.int x0), .val (.int x1), .val (.int x2), .val (.ref w_SqlText_Control_NONE), .val (.ref w_SqlText_Control_WITH_WORK), .val (.ref w_SqlText_Control_NONE), .unset, .unset, .unset, .unset, .unset] rfl rfl 17 rfl ?_
        refine own_aload_n X125 hx (hb hby at_17) rfl rfl 18 rfl ?_
        refine own_aload X125 hx (hb hby at_18) rfl rfl 20 rfl ?_
        refine own_pureV X125 hx hZ hown (own_w hw 10 rfl) (own_w hw 11 rfl) (notFace_of_selects (args := #[]) (mvT hZ (own_w hw 13 rfl))) (own_w hw 13 rfl) (own_w hw 12 rfl) (own_w hw 6 rfl) (own_w hw 14 rfl) (by decide) w_SqlText_Control_NONE [(.ref w_SqlText_Control_WITH_WORK)] [] 0 (rm_then_3 l Z a0 hw []  h0 n0 H) (by decide) (by decide) rfl rfl e125 E_w_SqlText_Control_NONE (by rw [hml]; rfl) (lenOf pd_1 rfl) (Nat.le_of_eq rfl) (hb hby at_20) 23 rfl rfl (by decide) (by decide) fun T127 X127 e127 => ?_
        refine own_astore X127 hx (hb hby at_23) #[.val (.int x0), .val (.int x1), .val (.int x2), .val (.ref w_SqlText_Control_NONE), .val (.ref w_SqlText_Control_WITH_WORK), .val (.ref w_SqlText_Control_NONE), .val (.ref w_SqlText_Control_WITH_WORK), .unset, .unset, .unset, .unset] rfl rfl 25 rfl ?_
        refine own_aload_n X127 hx (hb hby at_25) rfl rfl 26 rfl ?_
        refine own_getS X127 hx hZ hown (host := "") (Or.inl (own_w hw 5 rfl)) Via.refl e127 S_w_SqlText_Control_NONE (hb hby at_26) 29 rfl fun T128 X128 e128 => ?_
        refine own_acmp X128 hx true (hb hby at_29) rfl rfl (decide_eq_true rfl) 32 (by decide) (by decide) ?_
        refine own_aload X128 hx (hb hby at_32) rfl rfl 34 rfl ?_
        refine own_getS X128 hx hZ hown (host := "") (Or.inl (own_w hw 5 rfl)) Via.refl e128 S_w_SqlText_Control_NONE (hb hby at_34) 37 rfl fun T129 X129 e129 => ?_
        refine own_acmp X129 hx false (hb hby at_37) rfl rfl (decide_eq_false fun q => (Ne.symm ne_w_SqlText_Control_NONE_w_SqlText_Control_WITH_WORK) (Value.ref.inj q)) 44 (by decide) (by decide) ?_
        refine own_iconst X129 hx (hb hby at_44) (0 : Int32) rfl 45 rfl ?_
        refine own_istore X129 hx (hb hby at_45) #[.val (.int x0), .val (.int x1), .val (.int x2), .val (.ref w_SqlText_Control_NONE), .val (.ref w_SqlText_Control_WITH_WORK), .val (.ref w_SqlText_Control_NONE), .val (.ref w_SqlText_Control_WITH_WORK), .val (.int (0 : Int32)), .unset, .unset, .unset] rfl 47 rfl ?_
        refine own_iload X129 hx (hb hby at_47) rfl 49 rfl ?_
        refine own_ifY X129 hx (hb hby at_49) ((if0 _ _).trans (teq (by decide : (0 : Int32) = (0 : Int32))).1) 70 (by decide) (by decide) ?_
        refine own_aload X129 hx (hb hby at_70) rfl rfl 72 rfl ?_
        refine own_getS X129 hx hZ hown (host := "") (Or.inl (own_w hw 8 rfl)) Via.refl e129 S_w_SqlText_Control_WITH_WORK (hb hby at_72) 75 rfl fun T130 X130 e130 => ?_
        refine own_acmp X130 hx true (hb hby at_75) rfl rfl (decide_eq_true rfl) 78 (by decide) (by decide) ?_
        refine own_iconst X130 hx (hb hby at_78) (1 : Int32) rfl 79 rfl ?_
        refine own_goto X130 hx (hb hby at_79) 83 (by decide) (by decide) ?_
        refine own_istore X130 hx (hb hby at_83) #[.val (.int x0), .val (.int x1), .val (.int x2), .val (.ref w_SqlText_Control_NONE), .val (.ref w_SqlText_Control_WITH_WORK), .val (.ref w_SqlText_Control_NONE), .val (.ref w_SqlText_Control_WITH_WORK), .val (.int (0 : Int32)), .val (.int (1 : Int32)), .unset, .unset] rfl 85 rfl ?_
        refine own_aload X130 hx (hb hby at_85) rfl rfl 87 rfl ?_
        refine own_aload X130 hx (hb hby at_87) rfl rfl 89 rfl ?_
        refine own_aload_n X130 hx (hb hby at_89) rfl rfl 90 rfl ?_
        refine own_pureV X130 hx hZ hown (own_w hw 10 rfl) (own_w hw 11 rfl) (notFace_of_selects (args := #[]) (mvT hZ (own_w hw 13 rfl))) (own_w hw 13 rfl) (own_w hw 12 rfl) (own_w hw 6 rfl) (own_w hw 14 rfl) (by decide) w_SqlText_Control_WITH_WORK [(.ref w_SqlText_Control_NONE)] [(.ref w_SqlText_Control_WITH_WORK)] 1 (rm_then_5 l Z a0 hw []  h0 n0 H) (by decide) (by decide) rfl rfl e130 E_w_SqlText_Control_WITH_WORK (by rw [hml]; rfl) (lenOf pd_1 rfl) (Nat.le_of_eq rfl) (hb hby at_90) 93 rfl rfl (by decide) (by decide) fun T132 X132 e132 => ?_
        refine own_acmp X132 hx true (hb hby at_93) rfl rfl (decide_eq_true rfl) 96 (by decide) (by decide) ?_
        refine own_iconst X132 hx (hb hby at_96) (1 : Int32) rfl 97 rfl ?_
        refine own_goto X132 hx (hb hby at_97) 101 (by decide) (by decide) ?_
        refine own_istore X132 hx (hb hby at_101) #[.val (.int x0), .val (.int x1), .val (.int x2), .val (.ref w_SqlText_Control_NONE), .val (.ref w_SqlText_Control_WITH_WORK), .val (.ref w_SqlText_Control_NONE), .val (.ref w_SqlText_Control_WITH_WORK), .val (.int (0 : Int32)), .val (.int (1 : Int32)), .val (.int (1 : Int32)), .unset] rfl 103 rfl ?_
        refine own_aload X132 hx (hb hby at_103) rfl rfl 105 rfl ?_
        refine own_aload X132 hx (hb hby at_105) rfl rfl 107 rfl ?_
        refine own_pureV X132 hx hZ hown (own_w hw 10 rfl) (own_w hw 11 rfl) (notFace_of_selects (args := #[]) (mvT hZ (own_w hw 13 rfl))) (own_w hw 13 rfl) (own_w hw 12 rfl) (own_w hw 6 rfl) (own_w hw 14 rfl) (by decide) w_SqlText_Control_WITH_WORK [(.ref w_SqlText_Control_NONE)] [] 0 (rm_then_5 l Z a0 hw []  h0 n0 H) (by decide) (by decide) rfl rfl e132 E_w_SqlText_Control_WITH_WORK (by rw [hml]; rfl) (lenOf pd_1 rfl) (Nat.le_of_eq rfl) (hb hby at_107) 110 rfl rfl (by decide) (by decide) fun T134 X134 e134 => ?_
        refine own_aload_n X134 hx (hb hby at_110) rfl rfl 111 rfl ?_
        refine own_aload X134 hx (hb hby at_111) rfl rfl 113 rfl ?_
        refine own_aload X134 hx (hb hby at_113) rfl rfl 115 rfl ?_
        refine own_pureV X134 hx hZ hown (own_w hw 10 rfl) (own_w hw 11 rfl) (notFace_of_selects (args := #[]) (mvT hZ (own_w hw 13 rfl))) (own_w hw 13 rfl) (own_w hw 12 rfl) (own_w hw 6 rfl) (own_w hw 14 rfl) (by decide) w_SqlText_Control_WITH_WORK [(.ref w_SqlText_Control_NONE)] [(.ref w_SqlText_Control_NONE), (.ref w_SqlText_Control_WITH_WORK)] 2 (rm_then_5 l Z a0 hw []  h0 n0 H) (by decide) (by decide) rfl rfl e134 E_w_SqlText_Control_WITH_WORK (by rw [hml]; rfl) (lenOf pd_1 rfl) (Nat.le_of_eq rfl) (hb hby at_115) 118 rfl rfl (by decide) (by decide) fun T136 X136 e136 => ?_
        refine own_pureV X136 hx hZ hown (own_w hw 10 rfl) (own_w hw 11 rfl) (notFace_of_selects (args := #[]) (mvT hZ (own_w hw 13 rfl))) (own_w hw 13 rfl) (own_w hw 12 rfl) (own_w hw 6 rfl) (own_w hw 14 rfl) (by decide) w_SqlText_Control_NONE [(.ref w_SqlText_Control_WITH_WORK)] [(.ref w_SqlText_Control_WITH_WORK)] 1 (rm_then_3 l Z a0 hw []  h0 n0 H) (by decide) (by decide) rfl rfl e136 E_w_SqlText_Control_NONE (by rw [hml]; rfl) (lenOf pd_1 rfl) (Nat.le_of_eq rfl) (hb hby at_118) 121 rfl rfl (by decide) (by decide) fun T138 X138 e138 => ?_
        refine own_acmp X138 hx true (hb hby at_121) rfl rfl (decide_eq_true rfl) 124 (by decide) (by decide) ?_
        refine own_iconst X138 hx (hb hby at_124) (1 : Int32) rfl 125 rfl ?_
        refine own_goto X138 hx (hb hby at_125) 129 (by decide) (by decide) ?_
        refine own_istore X138 hx (hb hby at_129) #[.val (.int x0), .val (.int x1), .val (.int x2), .val (.ref w_SqlText_Control_NONE), .val (.ref w_SqlText_Control_WITH_WORK), .val (.ref w_SqlText_Control_NONE), .val (.ref w_SqlText_Control_WITH_WORK), .val (.int (0 : Int32)), .val (.int (1 : Int32)), .val (.int (1 : Int32)), .val (.int (1 : Int32))] rfl 131 rfl ?_
        refine own_iload X138 hx (hb hby at_131) rfl 133 rfl ?_
        refine own_ifN X138 hx (hb hby at_133) ((if0 _ _).trans (feq (by decide : ¬ ((1 : Int32) = (0 : Int32)))).1) 136 rfl ?_
        refine own_iload X138 hx (hb hby at_136) rfl 138 rfl ?_
        refine own_ifN X138 hx (hb hby at_138) ((if0 _ _).trans (feq (by decide : ¬ ((1 : Int32) = (0 : Int32)))).1) 141 rfl ?_
        refine own_iload X138 hx (hb hby at_141) rfl 143 rfl ?_
        refine own_ifN X138 hx (hb hby at_143) ((if0 _ _).trans (feq (by decide : ¬ ((1 : Int32) = (0 : Int32)))).1) 146 rfl ?_
        refine own_iconst X138 hx (hb hby at_146) (1 : Int32) rfl 147 rfl ?_
        refine own_goto X138 hx (hb hby at_147) 151 (by decide) (by decide) ?_
        exact own_retZ X138 hx hk hret (hb hby at_151) rfl ⟨rfl, Fr.nil _⟩ (by decide) (by decide)
      · skip
        refine own_iload_n X0 hx (hb hby at_0) rfl 1 rfl ?_
        refine own_pureS X0 hx hZ hown (own_w hw 0 rfl) (own_w hw 1 rfl) (own_w hw 2 rfl) (own_w hw 3 rfl) (by decide) [(.int x0)] [] 0 (rm_pick_0 l Z a0 hw [] x0 h0 n0 H q1) (by decide) (by decide) rfl rfl e0 (by rw [hml]; rfl) (lenOf pd_0 rfl) (Nat.le_of_eq rfl) (hb hby at_1) 4 rfl rfl (by decide) (by decide) fun T140 X140 e140 => ?_
        refine own_astore_n X140 hx (hb hby at_4) #[.val (.int x0), .val (.int x1), .val (.int x2), .val (.ref w_SqlText_Control_NONE), .unset, .unset, .unset, .unset, .unset, .unset, .unset] rfl rfl 5 rfl ?_
        refine own_iload_n X140 hx (hb hby at_5) rfl 6 rfl ?_
        refine own_pureS X140 hx hZ hown (own_w hw 0 rfl) (own_w hw 1 rfl) (own_w hw 2 rfl) (own_w hw 3 rfl) (by decide) [(.int x1)] [] 0 (rm_pick_2 l Z a0 hw [] x1 h0 n0 H q2) (by decide) (by decide) rfl rfl e140 (by rw [hml]; rfl) (lenOf pd_0 rfl) (Nat.le_of_eq rfl) (hb hby at_6) 9 rfl rfl (by decide) (by decide) fun T142 X142 e142 => ?_
        refine own_astore X142 hx (hb hby at_9) #[.val (.int x0), .val (.int x1), .val (.int x2), .val (.ref w_SqlText_Control_NONE), .val (.ref w_SqlText_Control_WITH_WORK), .unset, .unset, .unset, .unset, .unset, .unset] rfl rfl 11 rfl ?_
        refine own_iload_n X142 hx (hb hby at_11) rfl 12 rfl ?_
        refine own_pureS X142 hx hZ hown (own_w hw 0 rfl) (own_w hw 1 rfl) (own_w hw 2 rfl) (own_w hw 3 rfl) (by decide) [(.int x2)] [] 0 (rm_pick_1 l Z a0 hw [] x2 h0 n0 H q119) (by decide) (by decide) rfl rfl e142 (by rw [hml]; rfl) (lenOf pd_0 rfl) (Nat.le_of_eq rfl) (hb hby at_12) 15 rfl rfl (by decide) (by decide) fun T144 X144 e144 => ?_
        refine own_astore X144 hx (hb hby at_15) #[.val (.int x0), .val (.int x1), .val (.int x2), .val (.ref w_SqlText_Control_NONE), .val (.ref w_SqlText_Control_WITH_WORK), .val (.ref w_SqlText_Control_ALONE), .unset, .unset, .unset, .unset, .unset] rfl rfl 17 rfl ?_
        refine own_aload_n X144 hx (hb hby at_17) rfl rfl 18 rfl ?_
        refine own_aload X144 hx (hb hby at_18) rfl rfl 20 rfl ?_
        refine own_pureV X144 hx hZ hown (own_w hw 10 rfl) (own_w hw 11 rfl) (notFace_of_selects (args := #[]) (mvT hZ (own_w hw 13 rfl))) (own_w hw 13 rfl) (own_w hw 12 rfl) (own_w hw 6 rfl) (own_w hw 14 rfl) (by decide) w_SqlText_Control_NONE [(.ref w_SqlText_Control_WITH_WORK)] [] 0 (rm_then_3 l Z a0 hw []  h0 n0 H) (by decide) (by decide) rfl rfl e144 E_w_SqlText_Control_NONE (by rw [hml]; rfl) (lenOf pd_1 rfl) (Nat.le_of_eq rfl) (hb hby at_20) 23 rfl rfl (by decide) (by decide) fun T146 X146 e146 => ?_
        refine own_astore X146 hx (hb hby at_23) #[.val (.int x0), .val (.int x1), .val (.int x2), .val (.ref w_SqlText_Control_NONE), .val (.ref w_SqlText_Control_WITH_WORK), .val (.ref w_SqlText_Control_ALONE), .val (.ref w_SqlText_Control_WITH_WORK), .unset, .unset, .unset, .unset] rfl rfl 25 rfl ?_
        refine own_aload_n X146 hx (hb hby at_25) rfl rfl 26 rfl ?_
        refine own_getS X146 hx hZ hown (host := "") (Or.inl (own_w hw 5 rfl)) Via.refl e146 S_w_SqlText_Control_NONE (hb hby at_26) 29 rfl fun T147 X147 e147 => ?_
        refine own_acmp X147 hx true (hb hby at_29) rfl rfl (decide_eq_true rfl) 32 (by decide) (by decide) ?_
        refine own_aload X147 hx (hb hby at_32) rfl rfl 34 rfl ?_
        refine own_getS X147 hx hZ hown (host := "") (Or.inl (own_w hw 5 rfl)) Via.refl e147 S_w_SqlText_Control_NONE (hb hby at_34) 37 rfl fun T148 X148 e148 => ?_
        refine own_acmp X148 hx false (hb hby at_37) rfl rfl (decide_eq_false fun q => (Ne.symm ne_w_SqlText_Control_NONE_w_SqlText_Control_WITH_WORK) (Value.ref.inj q)) 44 (by decide) (by decide) ?_
        refine own_iconst X148 hx (hb hby at_44) (0 : Int32) rfl 45 rfl ?_
        refine own_istore X148 hx (hb hby at_45) #[.val (.int x0), .val (.int x1), .val (.int x2), .val (.ref w_SqlText_Control_NONE), .val (.ref w_SqlText_Control_WITH_WORK), .val (.ref w_SqlText_Control_ALONE), .val (.ref w_SqlText_Control_WITH_WORK), .val (.int (0 : Int32)), .unset, .unset, .unset] rfl 47 rfl ?_
        refine own_iload X148 hx (hb hby at_47) rfl 49 rfl ?_
        refine own_ifY X148 hx (hb hby at_49) ((if0 _ _).trans (teq (by decide : (0 : Int32) = (0 : Int32))).1) 70 (by decide) (by decide) ?_
        refine own_aload X148 hx (hb hby at_70) rfl rfl 72 rfl ?_
        refine own_getS X148 hx hZ hown (host := "") (Or.inl (own_w hw 8 rfl)) Via.refl e148 S_w_SqlText_Control_WITH_WORK (hb hby at_72) 75 rfl fun T149 X149 e149 => ?_
        refine own_acmp X149 hx true (hb hby at_75) rfl rfl (decide_eq_true rfl) 78 (by decide) (by decide) ?_
        refine own_iconst X149 hx (hb hby at_78) (1 : Int32) rfl 79 rfl ?_
        refine own_goto X149 hx (hb hby at_79) 83 (by decide) (by decide) ?_
        refine own_istore X149 hx (hb hby at_83) #[.val (.int x0), .val (.int x1), .val (.int x2), .val (.ref w_SqlText_Control_NONE), .val (.ref w_SqlText_Control_WITH_WORK), .val (.ref w_SqlText_Control_ALONE), .val (.ref w_SqlText_Control_WITH_WORK), .val (.int (0 : Int32)), .val (.int (1 : Int32)), .unset, .unset] rfl 85 rfl ?_
        refine own_aload X149 hx (hb hby at_85) rfl rfl 87 rfl ?_
        refine own_aload X149 hx (hb hby at_87) rfl rfl 89 rfl ?_
        refine own_aload_n X149 hx (hb hby at_89) rfl rfl 90 rfl ?_
        refine own_pureV X149 hx hZ hown (own_w hw 10 rfl) (own_w hw 11 rfl) (notFace_of_selects (args := #[]) (mvT hZ (own_w hw 13 rfl))) (own_w hw 13 rfl) (own_w hw 12 rfl) (own_w hw 6 rfl) (own_w hw 14 rfl) (by decide) w_SqlText_Control_WITH_WORK [(.ref w_SqlText_Control_NONE)] [(.ref w_SqlText_Control_WITH_WORK)] 1 (rm_then_5 l Z a0 hw []  h0 n0 H) (by decide) (by decide) rfl rfl e149 E_w_SqlText_Control_WITH_WORK (by rw [hml]; rfl) (lenOf pd_1 rfl) (Nat.le_of_eq rfl) (hb hby at_90) 93 rfl rfl (by decide) (by decide) fun T151 X151 e151 => ?_
        refine own_acmp X151 hx true (hb hby at_93) rfl rfl (decide_eq_true rfl) 96 (by decide) (by decide) ?_
        refine own_iconst X151 hx (hb hby at_96) (1 : Int32) rfl 97 rfl ?_
        refine own_goto X151 hx (hb hby at_97) 101 (by decide) (by decide) ?_
        refine own_istore X151 hx (hb hby at_101) #[.val (.int x0), .val (.int x1), .val (.int x2), .val (.ref w_SqlText_Control_NONE), .val (.ref w_SqlText_Control_WITH_WORK), .val (.ref w_SqlText_Control_ALONE), .val (.ref w_SqlText_Control_WITH_WORK), .val (.int (0 : Int32)), .val (.int (1 : Int32)), .val (.int (1 : Int32)), .unset] rfl 103 rfl ?_
        refine own_aload X151 hx (hb hby at_103) rfl rfl 105 rfl ?_
        refine own_aload X151 hx (hb hby at_105) rfl rfl 107 rfl ?_
        refine own_pureV X151 hx hZ hown (own_w hw 10 rfl) (own_w hw 11 rfl) (notFace_of_selects (args := #[]) (mvT hZ (own_w hw 13 rfl))) (own_w hw 13 rfl) (own_w hw 12 rfl) (own_w hw 6 rfl) (own_w hw 14 rfl) (by decide) w_SqlText_Control_WITH_WORK [(.ref w_SqlText_Control_ALONE)] [] 0 (rm_then_6 l Z a0 hw []  h0 n0 H) (by decide) (by decide) rfl rfl e151 E_w_SqlText_Control_WITH_WORK (by rw [hml]; rfl) (lenOf pd_1 rfl) (Nat.le_of_eq rfl) (hb hby at_107) 110 rfl rfl (by decide) (by decide) fun T153 X153 e153 => ?_
        refine own_aload_n X153 hx (hb hby at_110) rfl rfl 111 rfl ?_
        refine own_aload X153 hx (hb hby at_111) rfl rfl 113 rfl ?_
        refine own_aload X153 hx (hb hby at_113) rfl rfl 115 rfl ?_
        refine own_pureV X153 hx hZ hown (own_w hw 10 rfl) (own_w hw 11 rfl) (notFace_of_selects (args := #[]) (mvT hZ (own_w hw 13 rfl))) (own_w hw 13 rfl) (own_w hw 12 rfl) (own_w hw 6 rfl) (own_w hw 14 rfl) (by decide) w_SqlText_Control_WITH_WORK [(.ref w_SqlText_Control_ALONE)] [(.ref w_SqlText_Control_NONE), (.ref w_SqlText_Control_WITH_WORK)] 2 (rm_then_6 l Z a0 hw []  h0 n0 H) (by decide) (by decide) rfl rfl e153 E_w_SqlText_Control_WITH_WORK (by rw [hml]; rfl) (lenOf pd_1 rfl) (Nat.le_of_eq rfl) (hb hby at_115) 118 rfl rfl (by decide) (by decide) fun T155 X155 e155 => ?_
        refine own_pureV X155 hx hZ hown (own_w hw 10 rfl) (own_w hw 11 rfl) (notFace_of_selects (args := #[]) (mvT hZ (own_w hw 13 rfl))) (own_w hw 13 rfl) (own_w hw 12 rfl) (own_w hw 6 rfl) (own_w hw 14 rfl) (by decide) w_SqlText_Control_NONE [(.ref w_SqlText_Control_WITH_WORK)] [(.ref w_SqlText_Control_WITH_WORK)] 1 (rm_then_3 l Z a0 hw []  h0 n0 H) (by decide) (by decide) rfl rfl e155 E_w_SqlText_Control_NONE (by rw [hml]; rfl) (lenOf pd_1 rfl) (Nat.le_of_eq rfl) (hb hby at_118) 121 rfl rfl (by decide) (by decide) fun T157 X157 e157 => ?_
        refine own_acmp X157 hx true (hb hby at_121) rfl rfl (decide_eq_true rfl) 124 (by decide) (by decide) ?_
        refine own_iconst X157 hx (hb hby at_124) (1 : Int32) rfl 125 rfl ?_
        refine own_goto X157 hx (hb hby at_125) 129 (by decide) (by decide) ?_
        refine own_istore X157 hx (hb hby at_129) #[.val (.int x0), .val (.int x1), .val (.int x2), .val (.ref w_SqlText_Control_NONE), .val (.ref w_SqlText_Control_WITH_WORK), .val (.ref w_SqlText_Control_ALONE), .val (.ref w_SqlText_Control_WITH_WORK), .val (.int (0 : Int32)), .val (.int (1 : Int32)), .val (.int (1 : Int32)), .val (.int (1 : Int32))] rfl 131 rfl ?_
        refine own_iload X157 hx (hb hby at_131) rfl 133 rfl ?_
        refine own_ifN X157 hx (hb hby at_133) ((if0 _ _).trans (feq (by decide : ¬ ((1 : Int32) = (0 : Int32)))).1) 136 rfl ?_
        refine own_iload X157 hx (hb hby at_136) rfl 138 rfl ?_
        refine own_ifN X157 hx (hb hby at_138) ((if0 _ _).trans (feq (by decide : ¬ ((1 : Int32) = (0 : Int32)))).1) 141 rfl ?_
        refine own_iload X157 hx (hb hby at_141) rfl 143 rfl ?_
        refine own_ifN X157 hx (hb hby at_143) ((if0 _ _).trans (feq (by decide : ¬ ((1 : Int32) = (0 : Int32)))).1) 146 rfl ?_
        refine own_iconst X157 hx (hb hby at_146) (1 : Int32) rfl 147 rfl ?_
        refine own_goto X157 hx (hb hby at_147) 151 (by decide) (by decide) ?_
        exact own_retZ X157 hx hk hret (hb hby at_151) rfl ⟨rfl, Fr.nil _⟩ (by decide) (by decide)
      · skip
        refine own_iload_n X0 hx (hb hby at_0) rfl 1 rfl ?_
        refine own_pureS X0 hx hZ hown (own_w hw 0 rfl) (own_w hw 1 rfl) (own_w hw 2 rfl) (own_w hw 3 rfl) (by decide) [(.int x0)] [] 0 (rm_pick_0 l Z a0 hw [] x0 h0 n0 H q1) (by decide) (by decide) rfl rfl e0 (by rw [hml]; rfl) (lenOf pd_0 rfl) (Nat.le_of_eq rfl) (hb hby at_1) 4 rfl rfl (by decide) (by decide) fun T159 X159 e159 => ?_
        refine own_astore_n X159 hx (hb hby at_4) #[.val (.int x0), .val (.int x1), .val (.int x2), .val (.ref w_SqlText_Control_NONE), .unset, .unset, .unset, .unset, .unset, .unset, .unset] rfl rfl 5 rfl ?_
        refine own_iload_n X159 hx (hb hby at_5) rfl 6 rfl ?_
        refine own_pureS X159 hx hZ hown (own_w hw 0 rfl) (own_w hw 1 rfl) (own_w hw 2 rfl) (own_w hw 3 rfl) (by decide) [(.int x1)] [] 0 (rm_pick_2 l Z a0 hw [] x1 h0 n0 H q2) (by decide) (by decide) rfl rfl e159 (by rw [hml]; rfl) (lenOf pd_0 rfl) (Nat.le_of_eq rfl) (hb hby at_6) 9 rfl rfl (by decide) (by decide) fun T161 X161 e161 => ?_
        refine own_astore X161 hx (hb hby at_9) #[.val (.int x0), .val (.int x1), .val (.int x2), .val (.ref w_SqlText_Control_NONE), .val (.ref w_SqlText_Control_WITH_WORK), .unset, .unset, .unset, .unset, .unset, .unset] rfl rfl 11 rfl ?_
        refine own_iload_n X161 hx (hb hby at_11) rfl 12 rfl ?_
        refine own_pureS X161 hx hZ hown (own_w hw 0 rfl) (own_w hw 1 rfl) (own_w hw 2 rfl) (own_w hw 3 rfl) (by decide) [(.int x2)] [] 0 (rm_pick_2 l Z a0 hw [] x2 h0 n0 H q119) (by decide) (by decide) rfl rfl e161 (by rw [hml]; rfl) (lenOf pd_0 rfl) (Nat.le_of_eq rfl) (hb hby at_12) 15 rfl rfl (by decide) (by decide) fun T163 X163 e163 => ?_
        refine own_astore X163 hx (hb hby at_15) #[.val (.int x0), .val (.int x1), .val (.int x2), .val (.ref w_SqlText_Control_NONE), .val (.ref w_SqlText_Control_WITH_WORK), .val (.ref w_SqlText_Control_WITH_WORK), .unset, .unset, .unset, .unset, .unset] rfl rfl 17 rfl ?_
        refine own_aload_n X163 hx (hb hby at_17) rfl rfl 18 rfl ?_
        refine own_aload X163 hx (hb hby at_18) rfl rfl 20 rfl ?_
        refine own_pureV X163 hx hZ hown (own_w hw 10 rfl) (own_w hw 11 rfl) (notFace_of_selects (args := #[]) (mvT hZ (own_w hw 13 rfl))) (own_w hw 13 rfl) (own_w hw 12 rfl) (own_w hw 6 rfl) (own_w hw 14 rfl) (by decide) w_SqlText_Control_NONE [(.ref w_SqlText_Control_WITH_WORK)] [] 0 (rm_then_3 l Z a0 hw []  h0 n0 H) (by decide) (by decide) rfl rfl e163 E_w_SqlText_Control_NONE (by rw [hml]; rfl) (lenOf pd_1 rfl) (Nat.le_of_eq rfl) (hb hby at_20) 23 rfl rfl (by decide) (by decide) fun T165 X165 e165 => ?_
        refine own_astore X165 hx (hb hby at_23) #[.val (.int x0), .val (.int x1), .val (.int x2), .val (.ref w_SqlText_Control_NONE), .val (.ref w_SqlText_Control_WITH_WORK), .val (.ref w_SqlText_Control_WITH_WORK), .val (.ref w_SqlText_Control_WITH_WORK), .unset, .unset, .unset, .unset] rfl rfl 25 rfl ?_
        refine own_aload_n X165 hx (hb hby at_25) rfl rfl 26 rfl ?_
        refine own_getS X165 hx hZ hown (host := "") (Or.inl (own_w hw 5 rfl)) Via.refl e165 S_w_SqlText_Control_NONE (hb hby at_26) 29 rfl fun T166 X166 e166 => ?_
        refine own_acmp X166 hx true (hb hby at_29) rfl rfl (decide_eq_true rfl) 32 (by decide) (by decide) ?_
        refine own_aload X166 hx (hb hby at_32) rfl rfl 34 rfl ?_
        refine own_getS X166 hx hZ hown (host := "") (Or.inl (own_w hw 5 rfl)) Via.refl e166 S_w_SqlText_Control_NONE (hb hby at_34) 37 rfl fun T167 X167 e167 => ?_
        refine own_acmp X167 hx false (hb hby at_37) rfl rfl (decide_eq_false fun q => (Ne.symm ne_w_SqlText_Control_NONE_w_SqlText_Control_WITH_WORK) (Value.ref.inj q)) 44 (by decide) (by decide) ?_
        refine own_iconst X167 hx (hb hby at_44) (0 : Int32) rfl 45 rfl ?_
        refine own_istore X167 hx (hb hby at_45) #[.val (.int x0), .val (.int x1), .val (.int x2), .val (.ref w_SqlText_Control_NONE), .val (.ref w_SqlText_Control_WITH_WORK), .val (.ref w_SqlText_Control_WITH_WORK), .val (.ref w_SqlText_Control_WITH_WORK), .val (.int (0 : Int32)), .unset, .unset, .unset] rfl 47 rfl ?_
        refine own_iload X167 hx (hb hby at_47) rfl 49 rfl ?_
        refine own_ifY X167 hx (hb hby at_49) ((if0 _ _).trans (teq (by decide : (0 : Int32) = (0 : Int32))).1) 70 (by decide) (by decide) ?_
        refine own_aload X167 hx (hb hby at_70) rfl rfl 72 rfl ?_
        refine own_getS X167 hx hZ hown (host := "") (Or.inl (own_w hw 8 rfl)) Via.refl e167 S_w_SqlText_Control_WITH_WORK (hb hby at_72) 75 rfl fun T168 X168 e168 => ?_
        refine own_acmp X168 hx true (hb hby at_75) rfl rfl (decide_eq_true rfl) 78 (by decide) (by decide) ?_
        refine own_iconst X168 hx (hb hby at_78) (1 : Int32) rfl 79 rfl ?_
        refine own_goto X168 hx (hb hby at_79) 83 (by decide) (by decide) ?_
        refine own_istore X168 hx (hb hby at_83) #[.val (.int x0), .val (.int x1), .val (.int x2), .val (.ref w_SqlText_Control_NONE), .val (.ref w_SqlText_Control_WITH_WORK), .val (.ref w_SqlText_Control_WITH_WORK), .val (.ref w_SqlText_Control_WITH_WORK), .val (.int (0 : Int32)), .val (.int (1 : Int32)), .unset, .unset] rfl 85 rfl ?_
        refine own_aload X168 hx (hb hby at_85) rfl rfl 87 rfl ?_
        refine own_aload X168 hx (hb hby at_87) rfl rfl 89 rfl ?_
        refine own_aload_n X168 hx (hb hby at_89) rfl rfl 90 rfl ?_
        refine own_pureV X168 hx hZ hown (own_w hw 10 rfl) (own_w hw 11 rfl) (notFace_of_selects (args := #[]) (mvT hZ (own_w hw 13 rfl))) (own_w hw 13 rfl) (own_w hw 12 rfl) (own_w hw 6 rfl) (own_w hw 14 rfl) (by decide) w_SqlText_Control_WITH_WORK [(.ref w_SqlText_Control_NONE)] [(.ref w_SqlText_Control_WITH_WORK)] 1 (rm_then_5 l Z a0 hw []  h0 n0 H) (by decide) (by decide) rfl rfl e168 E_w_SqlText_Control_WITH_WORK (by rw [hml]; rfl) (lenOf pd_1 rfl) (Nat.le_of_eq rfl) (hb hby at_90) 93 rfl rfl (by decide) (by decide) fun T170 X170 e170 => ?_
        refine own_acmp X170 hx true (hb hby at_93) rfl rfl (decide_eq_true rfl) 96 (by decide) (by decide) ?_
        refine own_iconst X170 hx (hb hby at_96) (1 : Int32) rfl 97 rfl ?_
        refine own_goto X170 hx (hb hby at_97) 101 (by decide) (by decide) ?_
        refine own_istore X170 hx (hb hby at_101) #[.val (.int x0), .val (.int x1), .val (.int x2), .val (.ref w_SqlText_Control_NONE), .val (.ref w_SqlText_Control_WITH_WORK), .val (.ref w_SqlText_Control_WITH_WORK), .val (.ref w_SqlText_Control_WITH_WORK), .val (.int (0 : Int32)), .val (.int (1 : Int32)), .val (.int (1 : Int32)), .unset] rfl 103 rfl ?_
        refine own_aload X170 hx (hb hby at_103) rfl rfl 105 rfl ?_
        refine own_aload X170 hx (hb hby at_105) rfl rfl 107 rfl ?_
        refine own_pureV X170 hx hZ hown (own_w hw 10 rfl) (own_w hw 11 rfl) (notFace_of_selects (args := #[]) (mvT hZ (own_w hw 13 rfl))) (own_w hw 13 rfl) (own_w hw 12 rfl) (own_w hw 6 rfl) (own_w hw 14 rfl) (by decide) w_SqlText_Control_WITH_WORK [(.ref w_SqlText_Control_WITH_WORK)] [] 0 (rm_then_8 l Z a0 hw []  h0 n0 H) (by decide) (by decide) rfl rfl e170 E_w_SqlText_Control_WITH_WORK (by rw [hml]; rfl) (lenOf pd_1 rfl) (Nat.le_of_eq rfl) (hb hby at_107) 110 rfl rfl (by decide) (by decide) fun T172 X172 e172 => ?_
        refine own_aload_n X172 hx (hb hby at_110) rfl rfl 111 rfl ?_
        refine own_aload X172 hx (hb hby at_111) rfl rfl 113 rfl ?_
        refine own_aload X172 hx (hb hby at_113) rfl rfl 115 rfl ?_
        refine own_pureV X172 hx hZ hown (own_w hw 10 rfl) (own_w hw 11 rfl) (notFace_of_selects (args := #[]) (mvT hZ (own_w hw 13 rfl))) (own_w hw 13 rfl) (own_w hw 12 rfl) (own_w hw 6 rfl) (own_w hw 14 rfl) (by decide) w_SqlText_Control_WITH_WORK [(.ref w_SqlText_Control_WITH_WORK)] [(.ref w_SqlText_Control_NONE), (.ref w_SqlText_Control_WITH_WORK)] 2 (rm_then_8 l Z a0 hw []  h0 n0 H) (by decide) (by decide) rfl rfl e172 E_w_SqlText_Control_WITH_WORK (by rw [hml]; rfl) (lenOf pd_1 rfl) (Nat.le_of_eq rfl) (hb hby at_115) 118 rfl rfl (by decide) (by decide) fun T174 X174 e174 => ?_
        refine own_pureV X174 hx hZ hown (own_w hw 10 rfl) (own_w hw 11 rfl) (notFace_of_selects (args := #[]) (mvT hZ (own_w hw 13 rfl))) (own_w hw 13 rfl) (own_w hw 12 rfl) (own_w hw 6 rfl) (own_w hw 14 rfl) (by decide) w_SqlText_Control_NONE [(.ref w_SqlText_Control_WITH_WORK)] [(.ref w_SqlText_Control_WITH_WORK)] 1 (rm_then_3 l Z a0 hw []  h0 n0 H) (by decide) (by decide) rfl rfl e174 E_w_SqlText_Control_NONE (by rw [hml]; rfl) (lenOf pd_1 rfl) (Nat.le_of_eq rfl) (hb hby at_118) 121 rfl rfl (by decide) (by decide) fun T176 X176 e176 => ?_
        refine own_acmp X176 hx true (hb hby at_121) rfl rfl (decide_eq_true rfl) 124 (by decide) (by decide) ?_
        refine own_iconst X176 hx (hb hby at_124) (1 : Int32) rfl 125 rfl ?_
        refine own_goto X176 hx (hb hby at_125) 129 (by decide) (by decide) ?_
        refine own_istore X176 hx (hb hby at_129) #[.val (.int x0), .val (.int x1), .val (.int x2), .val (.ref w_SqlText_Control_NONE), .val (.ref w_SqlText_Control_WITH_WORK), .val (.ref w_SqlText_Control_WITH_WORK), .val (.ref w_SqlText_Control_WITH_WORK), .val (.int (0 : Int32)), .val (.int (1 : Int32)), .val (.int (1 : Int32)), .val (.int (1 : Int32))] rfl 131 rfl ?_
        refine own_iload X176 hx (hb hby at_131) rfl 133 rfl ?_
        refine own_ifN X176 hx (hb hby at_133) ((if0 _ _).trans (feq (by decide : ¬ ((1 : Int32) = (0 : Int32)))).1) 136 rfl ?_
        refine own_iload X176 hx (hb hby at_136) rfl 138 rfl ?_
        refine own_ifN X176 hx (hb hby at_138) ((if0 _ _).trans (feq (by decide : ¬ ((1 : Int32) = (0 : Int32)))).1) 141 rfl ?_
        refine own_iload X176 hx (hb hby at_141) rfl 143 rfl ?_
        refine own_ifN X176 hx (hb hby at_143) ((if0 _ _).trans (feq (by decide : ¬ ((1 : Int32) = (0 : Int32)))).1) 146 rfl ?_
        refine own_iconst X176 hx (hb hby at_146) (1 : Int32) rfl 147 rfl ?_
        refine own_goto X176 hx (hb hby at_147) 151 (by decide) (by decide) ?_
        exact own_retZ X176 hx hk hret (hb hby at_151) rfl ⟨rfl, Fr.nil _⟩ (by decide) (by decide)
  · skip
    rcases own_mod3 x1 with q177 | q177 | q177
    · skip
      rcases own_mod3 x2 with q178 | q178 | q178
      · skip
        refine own_iload_n X0 hx (hb hby at_0) rfl 1 rfl ?_
        refine own_pureS X0 hx hZ hown (own_w hw 0 rfl) (own_w hw 1 rfl) (own_w hw 2 rfl) (own_w hw 3 rfl) (by decide) [(.int x0)] [] 0 (rm_pick_1 l Z a0 hw [] x0 h0 n0 H q1) (by decide) (by decide) rfl rfl e0 (by rw [hml]; rfl) (lenOf pd_0 rfl) (Nat.le_of_eq rfl) (hb hby at_1) 4 rfl rfl (by decide) (by decide) fun T180 X180 e180 => ?_
        refine own_astore_n X180 hx (hb hby at_4) #[.val (.int x0), .val (.int x1), .val (.int x2), .val (.ref w_SqlText_Control_ALONE), .unset, .unset, .unset, .unset, .unset, .unset, .unset] rfl rfl 5 rfl ?_
        refine own_iload_n X180 hx (hb hby at_5) rfl 6 rfl ?_
        refine own_pureS X180 hx hZ hown (own_w hw 0 rfl) (own_w hw 1 rfl) (own_w hw 2 rfl) (own_w hw 3 rfl) (by decide) [(.int x1)] [] 0 (rm_pick_0 l Z a0 hw [] x1 h0 n0 H q177) (by decide) (by decide) rfl rfl e180 (by rw [hml]; rfl) (lenOf pd_0 rfl) (Nat.le_of_eq rfl) (hb hby at_6) 9 rfl rfl (by decide) (by decide) fun T182 X182 e182 => ?_
        refine own_astore X182 hx (hb hby at_9) #[.val (.int x0), .val (.int x1), .val (.int x2), .val (.ref w_SqlText_Control_ALONE), .val (.ref w_SqlText_Control_NONE), .unset, .unset, .unset, .unset, .unset, .unset] rfl rfl 11 rfl ?_
        refine own_iload_n X182 hx (hb hby at_11) rfl 12 rfl ?_
        refine own_pureS X182 hx hZ hown (own_w hw 0 rfl) (own_w hw 1 rfl) (own_w hw 2 rfl) (own_w hw 3 rfl) (by decide) [(.int x2)] [] 0 (rm_pick_0 l Z a0 hw [] x2 h0 n0 H q178) (by decide) (by decide) rfl rfl e182 (by rw [hml]; rfl) (lenOf pd_0 rfl) (Nat.le_of_eq rfl) (hb hby at_12) 15 rfl rfl (by decide) (by decide) fun T184 X184 e184 => ?_
        refine own_astore X184 hx (hb hby at_15) #[.val (.int x0), .val (.int x1), .val (.int x2), .val (.ref w_SqlText_Control_ALONE), .val (.ref w_SqlText_Control_NONE), .val (.ref w_SqlText_Control_NONE), .unset, .unset, .unset, .unset, .unset] rfl rfl 17 rfl ?_
        refine own_aload_n X184 hx (hb hby at_17) rfl rfl 18 rfl ?_
        refine own_aload X184 hx (hb hby at_18) rfl rfl 20 rfl ?_
        refine own_pureV X184 hx hZ hown (own_w hw 10 rfl) (own_w hw 11 rfl) (notFace_of_selects (args := #[]) (mvT hZ (own_w hw 13 rfl))) (own_w hw 13 rfl) (own_w hw 12 rfl) (own_w hw 6 rfl) (own_w hw 14 rfl) (by decide) w_SqlText_Control_ALONE [(.ref w_SqlText_Control_NONE)] [] 0 (rm_then_4 l Z a0 hw []  h0 n0 H) (by decide) (by decide) rfl rfl e184 E_w_SqlText_Control_ALONE (by rw [hml]; rfl) (lenOf pd_1 rfl) (Nat.le_of_eq rfl) (hb hby at_20) 23 rfl rfl (by decide) (by decide) fun T186 X186 e186 => ?_
        refine own_astore X186 hx (hb hby at_23) #[.val (.int x0), .val (.int x1), .val (.int x2), .val (.ref w_SqlText_Control_ALONE), .val (.ref w_SqlText_Control_NONE), .val (.ref w_SqlText_Control_NONE), .val (.ref w_SqlText_Control_WITH_WORK), .unset, .unset, .unset, .unset] rfl rfl 25 rfl ?_
        refine own_aload_n X186 hx (hb hby at_25) rfl rfl 26 rfl ?_
        refine own_getS X186 hx hZ hown (host := "") (Or.inl (own_w hw 5 rfl)) Via.refl e186 S_w_SqlText_Control_NONE (hb hby at_26) 29 rfl fun T187 X187 e187 => ?_
        refine own_acmp X187 hx false (hb hby at_29) rfl rfl (decide_eq_false fun q => ne_w_SqlText_Control_ALONE_w_SqlText_Control_NONE (Value.ref.inj q)) 44 (by decide) (by decide) ?_
        refine own_iconst X187 hx (hb hby at_44) (0 : Int32) rfl 45 rfl ?_
        refine own_istore X187 hx (hb hby at_45) #[.val (.int x0), .val (.int x1), .val (.int x2), .val (.ref w_SqlText_Control_ALONE), .val (.ref w_SqlText_Control_NONE), .val (.ref w_SqlText_Control_NONE), .val (.ref w_SqlText_Control_WITH_WORK), .val (.int (0 : Int32)), .unset, .unset, .unset] rfl 47 rfl ?_
        refine own_iload X187 hx (hb hby at_47) rfl 49 rfl ?_
        refine own_ifY X187 hx (hb hby at_49) ((if0 _ _).trans (teq (by decide : (0 : Int32) = (0 : Int32))).1) 70 (by decide) (by decide) ?_
        refine own_aload X187 hx (hb hby at_70) rfl rfl 72 rfl ?_
        refine own_getS X187 hx hZ hown (host := "") (Or.inl (own_w hw 8 rfl)) Via.refl e187 S_w_SqlText_Control_WITH_WORK (hb hby at_72) 75 rfl fun T188 X188 e188 => ?_
        refine own_acmp X188 hx true (hb hby at_75) rfl rfl (decide_eq_true rfl) 78 (by decide) (by decide) ?_
        refine own_iconst X188 hx (hb hby at_78) (1 : Int32) rfl 79 rfl ?_
        refine own_goto X188 hx (hb hby at_79) 83 (by decide) (by decide) ?_
        refine own_istore X188 hx (hb hby at_83) #[.val (.int x0), .val (.int x1), .val (.int x2), .val (.ref w_SqlText_Control_ALONE), .val (.ref w_SqlText_Control_NONE), .val (.ref w_SqlText_Control_NONE), .val (.ref w_SqlText_Control_WITH_WORK), .val (.int (0 : Int32)), .val (.int (1 : Int32)), .unset, .unset] rfl 85 rfl ?_
        refine own_aload X188 hx (hb hby at_85) rfl rfl 87 rfl ?_
        refine own_aload X188 hx (hb hby at_87) rfl rfl 89 rfl ?_
        refine own_aload_n X188 hx (hb hby at_89) rfl rfl 90 rfl ?_
        refine own_pureV X188 hx hZ hown (own_w hw 10 rfl) (own_w hw 11 rfl) (notFace_of_selects (args := #[]) (mvT hZ (own_w hw 13 rfl))) (own_w hw 13 rfl) (own_w hw 12 rfl) (own_w hw 6 rfl) (own_w hw 14 rfl) (by decide) w_SqlText_Control_NONE [(.ref w_SqlText_Control_ALONE)] [(.ref w_SqlText_Control_WITH_WORK)] 1 (rm_then_2 l Z a0 hw []  h0 n0 H) (by decide) (by decide) rfl rfl e188 E_w_SqlText_Control_NONE (by rw [hml]; rfl) (lenOf pd_1 rfl) (Nat.le_of_eq rfl) (hb hby at_90) 93 rfl rfl (by decide) (by decide) fun T190 X190 e190 => ?_
        refine own_acmp X190 hx true (hb hby at_93) rfl rfl (decide_eq_true rfl) 96 (by decide) (by decide) ?_
        refine own_iconst X190 hx (hb hby at_96) (1 : Int32) rfl 97 rfl ?_
        refine own_goto X190 hx (hb hby at_97) 101 (by decide) (by decide) ?_
        refine own_istore X190 hx (hb hby at_101) #[.val (.int x0), .val (.int x1), .val (.int x2), .val (.ref w_SqlText_Control_ALONE), .val (.ref w_SqlText_Control_NONE), .val (.ref w_SqlText_Control_NONE), .val (.ref w_SqlText_Control_WITH_WORK), .val (.int (0 : Int32)), .val (.int (1 : Int32)), .val (.int (1 : Int32)), .unset] rfl 103 rfl ?_
        refine own_aload X190 hx (hb hby at_103) rfl rfl 105 rfl ?_
        refine own_aload X190 hx (hb hby at_105) rfl rfl 107 rfl ?_
        refine own_pureV X190 hx hZ hown (own_w hw 10 rfl) (own_w hw 11 rfl) (notFace_of_selects (args := #[]) (mvT hZ (own_w hw 13 rfl))) (own_w hw 13 rfl) (own_w hw 12 rfl) (own_w hw 6 rfl) (own_w hw 14 rfl) (by decide) w_SqlText_Control_WITH_WORK [(.ref w_SqlText_Control_NONE)] [] 0 (rm_then_5 l Z a0 hw []  h0 n0 H) (by decide) (by decide) rfl rfl e190 E_w_SqlText_Control_WITH_WORK (by rw [hml]; rfl) (lenOf pd_1 rfl) (Nat.le_of_eq rfl) (hb hby at_107) 110 rfl rfl (by decide) (by decide) fun T192 X192 e192 => ?_
        refine own_aload_n X192 hx (hb hby at_110) rfl rfl 111 rfl ?_
        refine own_aload X192 hx (hb hby at_111) rfl rfl 113 rfl ?_
        refine own_aload X192 hx (hb hby at_113) rfl rfl 115 rfl ?_
        refine own_pureV X192 hx hZ hown (own_w hw 10 rfl) (own_w hw 11 rfl) (notFace_of_selects (args := #[]) (mvT hZ (own_w hw 13 rfl))) (own_w hw 13 rfl) (own_w hw 12 rfl) (own_w hw 6 rfl) (own_w hw 14 rfl) (by decide) w_SqlText_Control_NONE [(.ref w_SqlText_Control_NONE)] [(.ref w_SqlText_Control_ALONE), (.ref w_SqlText_Control_WITH_WORK)] 2 (rm_then_1 l Z a0 hw []  h0 n0 H) (by decide) (by decide) rfl rfl e192 E_w_SqlText_Control_NONE (by rw [hml]; rfl) (lenOf pd_1 rfl) (Nat.le_of_eq rfl) (hb hby at_115) 118 rfl rfl (by decide) (by decide) fun T194 X194 e194 => ?_
        refine own_pureV X194 hx hZ hown (own_w hw 10 rfl) (own_w hw 11 rfl) (notFace_of_selects (args := #[]) (mvT hZ (own_w hw 13 rfl))) (own_w hw 13 rfl) (own_w hw 12 rfl) (own_w hw 6 rfl) (own_w hw 14 rfl) (by decide) w_SqlText_Control_ALONE [(.ref w_SqlText_Control_NONE)] [(.ref w_SqlText_Control_WITH_WORK)] 1 (rm_then_4 l Z a0 hw []  h0 n0 H) (by decide) (by decide) rfl rfl e194 E_w_SqlText_Control_ALONE (by rw [hml]; rfl) (lenOf pd_1 rfl) (Nat.le_of_eq rfl) (hb hby at_118) 121 rfl rfl (by decide) (by decide) fun T196 X196 e196 => ?_
        refine own_acmp X196 hx true (hb hby at_121) rfl rfl (decide_eq_true rfl) 124 (by decide) (by decide) ?_
        refine own_iconst X196 hx (hb hby at_124) (1 : Int32) rfl 125 rfl ?_
        refine own_goto X196 hx (hb hby at_125) 129 (by decide) (by decide) ?_
        refine own_istore X196 hx (hb hby at_129) #[.val (.int x0), .val (.int x1), .val (.int x2), .val (.ref w_SqlText_Control_ALONE), .val (.ref w_SqlText_Control_NONE), .val (.ref w_SqlText_Control_NONE), .val (.ref w_SqlText_Control_WITH_WORK), .val (.int (0 : Int32)), .val (.int (1 : Int32)), .val (.int (1 : Int32)), .val (.int (1 : Int32))] rfl 131 rfl ?_
        refine own_iload X196 hx (hb hby at_131) rfl 133 rfl ?_
        refine own_ifN X196 hx (hb hby at_133) ((if0 _ _).trans (feq (by decide : ¬ ((1 : Int32) = (0 : Int32)))).1) 136 rfl ?_
        refine own_iload X196 hx (hb hby at_136) rfl 138 rfl ?_
        refine own_ifN X196 hx (hb hby at_138) ((if0 _ _).trans (feq (by decide : ¬ ((1 : Int32) = (0 : Int32)))).1) 141 rfl ?_
        refine own_iload X196 hx (hb hby at_141) rfl 143 rfl ?_
        refine own_ifN X196 hx (hb hby at_143) ((if0 _ _).trans (feq (by decide : ¬ ((1 : Int32) = (0 : Int32)))).1) 146 rfl ?_
        refine own_iconst X196 hx (hb hby at_146) (1 : Int32) rfl 147 rfl ?_
        refine own_goto X196 hx (hb hby at_147) 151 (by decide) (by decide) ?_
        exact own_retZ X196 hx hk hret (hb hby at_151) rfl ⟨rfl, Fr.nil _⟩ (by decide) (by decide)
      · skip
        refine own_iload_n X0 hx (hb hby at_0) rfl 1 rfl ?_
        refine own_pureS X0 hx hZ hown (own_w hw 0 rfl) (own_w hw 1 rfl) (own_w hw 2 rfl) (own_w hw 3 rfl) (by decide) [(.int x0)] [] 0 (rm_pick_1 l Z a0 hw [] x0 h0 n0 H q1) (by decide) (by decide) rfl rfl e0 (by rw [hml]; rfl) (lenOf pd_0 rfl) (Nat.le_of_eq rfl) (hb hby at_1) 4 rfl rfl (by decide) (by decide) fun T198 X198 e198 => ?_
        refine own_astore_n X198 hx (hb hby at_4) #[.val (.int x0), .val (.int x1), .val (.int x2), .val (.ref w_SqlText_Control_ALONE), .unset, .unset, .unset, .unset, .unset, .unset, .unset] rfl rfl 5 rfl ?_
        refine own_iload_n X198 hx (hb hby at_5) rfl 6 rfl ?_
        refine own_pureS X198 hx hZ hown (own_w hw 0 rfl) (own_w hw 1 rfl) (own_w hw 2 rfl) (own_w hw 3 rfl) (by decide) [(.int x1)] [] 0 (rm_pick_0 l Z a0 hw [] x1 h0 n0 H q177) (by decide) (by decide) rfl rfl e198 (by rw [hml]; rfl) (lenOf pd_0 rfl) (Nat.le_of_eq rfl) (hb hby at_6) 9 rfl rfl (by decide) (by decide) fun T200 X200 e200 => ?_
        refine own_astore X200 hx (hb hby at_9) #[.val (.int x0), .val (.int x1), .val (.int x2), .val (.ref w_SqlText_Control_ALONE), .val (.ref w_SqlText_Control_NONE), .unset, .unset, .unset, .unset, .unset, .unset] rfl rfl 11 rfl ?_
        refine own_iload_n X200 hx (hb hby at_11) rfl 12 rfl ?_
        refine own_pureS X200 hx hZ hown (own_w hw 0 rfl) (own_w hw 1 rfl) (own_w hw 2 rfl) (own_w hw 3 rfl) (by decide) [(.int x2)] [] 0 (rm_pick_1 l Z a0 hw [] x2 h0 n0 H q178) (by decide) (by decide) rfl rfl e200 (by rw [hml]; rfl) (lenOf pd_0 rfl) (Nat.le_of_eq rfl) (hb hby at_12) 15 rfl rfl (by decide) (by decide) fun T202 X202 e202 => ?_
        refine own_astore X202 hx (hb hby at_15) #[.val (.int x0), .val (.int x1), .val (.int x2), .val (.ref w_SqlText_Control_ALONE), .val (.ref w_SqlText_Control_NONE), .val (.ref w_SqlText_Control_ALONE), .unset, .unset, .unset, .unset, .unset] rfl rfl 17 rfl ?_
        refine own_aload_n X202 hx (hb hby at_17) rfl rfl 18 rfl ?_
        refine own_aload X202 hx (hb hby at_18) rfl rfl 20 rfl ?_
        refine own_pureV X202 hx hZ hown (own_w hw 10 rfl) (own_w hw 11 rfl) (notFace_of_selects (args := #[]) (mvT hZ (own_w hw 13 rfl))) (own_w hw 13 rfl) (own_w hw 12 rfl) (own_w hw 6 rfl) (own_w hw 14 rfl) (by decide) w_SqlText_Control_ALONE [(.ref w_SqlText_Control_NONE)] [] 0 (rm_then_4 l Z a0 hw []  h0 n0 H) (by decide) (by decide) rfl rfl e202 E_w_SqlText_Control_ALONE (by rw [hml]; rfl) (lenOf pd_1 rfl) (Nat.le_of_eq rfl) (hb hby at_20) 23 rfl rfl (by decide) (by decide) fun T204 X204 e204 => ?_
        refine own_astore X204 hx (hb hby at_23) #[.val (.int x0), .val (.int x1), .val (.int x2), .val (.ref w_SqlText_Control_ALONE), .val (.ref w_SqlText_Control_NONE), .val (.ref w_SqlText_Control_ALONE), .val (.ref w_SqlText_Control_WITH_WORK), .unset, .unset, .unset, .unset] rfl rfl 25 rfl ?_
        refine own_aload_n X204 hx (hb hby at_25) rfl rfl 26 rfl ?_
        refine own_getS X204 hx hZ hown (host := "") (Or.inl (own_w hw 5 rfl)) Via.refl e204 S_w_SqlText_Control_NONE (hb hby at_26) 29 rfl fun T205 X205 e205 => ?_
        refine own_acmp X205 hx false (hb hby at_29) rfl rfl (decide_eq_false fun q => ne_w_SqlText_Control_ALONE_w_SqlText_Control_NONE (Value.ref.inj q)) 44 (by decide) (by decide) ?_
        refine own_iconst X205 hx (hb hby at_44) (0 : Int32) rfl 45 rfl ?_
        refine own_istore X205 hx (hb hby at_45) #[.val (.int x0), .val (.int x1), .val (.int x2), .val (.ref w_SqlText_Control_ALONE), .val (.ref w_SqlText_Control_NONE), .val (.ref w_SqlText_Control_ALONE), .val (.ref w_SqlText_Control_WITH_WORK), .val (.int (0 : Int32)), .unset, .unset, .unset] rfl 47 rfl ?_
        refine own_iload X205 hx (hb hby at_47) rfl 49 rfl ?_
        refine own_ifY X205 hx (hb hby at_49) ((if0 _ _).trans (teq (by decide : (0 : Int32) = (0 : Int32))).1) 70 (by decide) (by decide) ?_
        refine own_aload X205 hx (hb hby at_70) rfl rfl 72 rfl ?_
        refine own_getS X205 hx hZ hown (host := "") (Or.inl (own_w hw 8 rfl)) Via.refl e205 S_w_SqlText_Control_WITH_WORK (hb hby at_72) 75 rfl fun T206 X206 e206 => ?_
        refine own_acmp X206 hx true (hb hby at_75) rfl rfl (decide_eq_true rfl) 78 (by decide) (by decide) ?_
        refine own_iconst X206 hx (hb hby at_78) (1 : Int32) rfl 79 rfl ?_
        refine own_goto X206 hx (hb hby at_79) 83 (by decide) (by decide) ?_
        refine own_istore X206 hx (hb hby at_83) #[.val (.int x0), .val (.int x1), .val (.int x2), .val (.ref w_SqlText_Control_ALONE), .val (.ref w_SqlText_Control_NONE), .val (.ref w_SqlText_Control_ALONE), .val (.ref w_SqlText_Control_WITH_WORK), .val (.int (0 : Int32)), .val (.int (1 : Int32)), .unset, .unset] rfl 85 rfl ?_
        refine own_aload X206 hx (hb hby at_85) rfl rfl 87 rfl ?_
        refine own_aload X206 hx (hb hby at_87) rfl rfl 89 rfl ?_
        refine own_aload_n X206 hx (hb hby at_89) rfl rfl 90 rfl ?_
        refine own_pureV X206 hx hZ hown (own_w hw 10 rfl) (own_w hw 11 rfl) (notFace_of_selects (args := #[]) (mvT hZ (own_w hw 13 rfl))) (own_w hw 13 rfl) (own_w hw 12 rfl) (own_w hw 6 rfl) (own_w hw 14 rfl) (by decide) w_SqlText_Control_NONE [(.ref w_SqlText_Control_ALONE)] [(.ref w_SqlText_Control_WITH_WORK)] 1 (rm_then_2 l Z a0 hw []  h0 n0 H) (by decide) (by decide) rfl rfl e206 E_w_SqlText_Control_NONE (by rw [hml]; rfl) (lenOf pd_1 rfl) (Nat.le_of_eq rfl) (hb hby at_90) 93 rfl rfl (by decide) (by decide) fun T208 X208 e208 => ?_
        refine own_acmp X208 hx true (hb hby at_93) rfl rfl (decide_eq_true rfl) 96 (by decide) (by decide) ?_
        refine own_iconst X208 hx (hb hby at_96) (1 : Int32) rfl 97 rfl ?_
        refine own_goto X208 hx (hb hby at_97) 101 (by decide) (by decide) ?_
        refine own_istore X208 hx (hb hby at_101) #[.val (.int x0), .val (.int x1), .val (.int x2), .val (.ref w_SqlText_Control_ALONE), .val (.ref w_SqlText_Control_NONE), .val (.ref w_SqlText_Control_ALONE), .val (.ref w_SqlText_Control_WITH_WORK), .val (.int (0 : Int32)), .val (.int (1 : Int32)), .val (.int (1 : Int32)), .unset] rfl 103 rfl ?_
        refine own_aload X208 hx (hb hby at_103) rfl rfl 105 rfl ?_
        refine own_aload X208 hx (hb hby at_105) rfl rfl 107 rfl ?_
        refine own_pureV X208 hx hZ hown (own_w hw 10 rfl) (own_w hw 11 rfl) (notFace_of_selects (args := #[]) (mvT hZ (own_w hw 13 rfl))) (own_w hw 13 rfl) (own_w hw 12 rfl) (own_w hw 6 rfl) (own_w hw 14 rfl) (by decide) w_SqlText_Control_WITH_WORK [(.ref w_SqlText_Control_ALONE)] [] 0 (rm_then_6 l Z a0 hw []  h0 n0 H) (by decide) (by decide) rfl rfl e208 E_w_SqlText_Control_WITH_WORK (by rw [hml]; rfl) (lenOf pd_1 rfl) (Nat.le_of_eq rfl) (hb hby at_107) 110 rfl rfl (by decide) (by decide) fun T210 X210 e210 => ?_
        refine own_aload_n X210 hx (hb hby at_110) rfl rfl 111 rfl ?_
        refine own_aload X210 hx (hb hby at_111) rfl rfl 113 rfl ?_
        refine own_aload X210 hx (hb hby at_113) rfl rfl 115 rfl ?_
        refine own_pureV X210 hx hZ hown (own_w hw 10 rfl) (own_w hw 11 rfl) (notFace_of_selects (args := #[]) (mvT hZ (own_w hw 13 rfl))) (own_w hw 13 rfl) (own_w hw 12 rfl) (own_w hw 6 rfl) (own_w hw 14 rfl) (by decide) w_SqlText_Control_NONE [(.ref w_SqlText_Control_ALONE)] [(.ref w_SqlText_Control_ALONE), (.ref w_SqlText_Control_WITH_WORK)] 2 (rm_then_2 l Z a0 hw []  h0 n0 H) (by decide) (by decide) rfl rfl e210 E_w_SqlText_Control_NONE (by rw [hml]; rfl) (lenOf pd_1 rfl) (Nat.le_of_eq rfl) (hb hby at_115) 118 rfl rfl (by decide) (by decide) fun T212 X212 e212 => ?_
        refine own_pureV X212 hx hZ hown (own_w hw 10 rfl) (own_w hw 11 rfl) (notFace_of_selects (args := #[]) (mvT hZ (own_w hw 13 rfl))) (own_w hw 13 rfl) (own_w hw 12 rfl) (own_w hw 6 rfl) (own_w hw 14 rfl) (by decide) w_SqlText_Control_ALONE [(.ref w_SqlText_Control_WITH_WORK)] [(.ref w_SqlText_Control_WITH_WORK)] 1 (rm_then_9 l Z a0 hw []  h0 n0 H) (by decide) (by decide) rfl rfl e212 E_w_SqlText_Control_ALONE (by rw [hml]; rfl) (lenOf pd_1 rfl) (Nat.le_of_eq rfl) (hb hby at_118) 121 rfl rfl (by decide) (by decide) fun T214 X214 e214 => ?_
        refine own_acmp X214 hx true (hb hby at_121) rfl rfl (decide_eq_true rfl) 124 (by decide) (by decide) ?_
        refine own_iconst X214 hx (hb hby at_124) (1 : Int32) rfl 125 rfl ?_
        refine own_goto X214 hx (hb hby at_125) 129 (by decide) (by decide) ?_
        refine own_istore X214 hx (hb hby at_129) #[.val (.int x0), .val (.int x1), .val (.int x2), .val (.ref w_SqlText_Control_ALONE), .val (.ref w_SqlText_Control_NONE), .val (.ref w_SqlText_Control_ALONE), .val (.ref w_SqlText_Control_WITH_WORK), .val (.int (0 : Int32)), .val (.int (1 : Int32)), .val (.int (1 : Int32)), .val (.int (1 : Int32))] rfl 131 rfl ?_
        refine own_iload X214 hx (hb hby at_131) rfl 133 rfl ?_
        refine own_ifN X214 hx (hb hby at_133) ((if0 _ _).trans (feq (by decide : ¬ ((1 : Int32) = (0 : Int32)))).1) 136 rfl ?_
        refine own_iload X214 hx (hb hby at_136) rfl 138 rfl ?_
        refine own_ifN X214 hx (hb hby at_138) ((if0 _ _).trans (feq (by decide : ¬ ((1 : Int32) = (0 : Int32)))).1) 141 rfl ?_
        refine own_iload X214 hx (hb hby at_141) rfl 143 rfl ?_
        refine own_ifN X214 hx (hb hby at_143) ((if0 _ _).trans (feq (by decide : ¬ ((1 : Int32) = (0 : Int32)))).1) 146 rfl ?_
        refine own_iconst X214 hx (hb hby at_146) (1 : Int32) rfl 147 rfl ?_
        refine own_goto X214 hx (hb hby at_147) 151 (by decide) (by decide) ?_
        exact own_retZ X214 hx hk hret (hb hby at_151) rfl ⟨rfl, Fr.nil _⟩ (by decide) (by decide)
      · skip
        refine own_iload_n X0 hx (hb hby at_0) rfl 1 rfl ?_
        refine own_pureS X0 hx hZ hown (own_w hw 0 rfl) (own_w hw 1 rfl) (own_w hw 2 rfl) (own_w hw 3 rfl) (by decide) [(.int x0)] [] 0 (rm_pick_1 l Z a0 hw [] x0 h0 n0 H q1) (by decide) (by decide) rfl rfl e0 (by rw [hml]; rfl) (lenOf pd_0 rfl) (Nat.le_of_eq rfl) (hb hby at_1) 4 rfl rfl (by decide) (by decide) fun T216 X216 e216 => ?_
        refine own_astore_n X216 hx (hb hby at_4) #[.val (.int x0), .val (.int x1), .val (.int x2), .val (.ref w_SqlText_Control_ALONE), .unset, .unset, .unset, .unset, .unset, .unset, .unset] rfl rfl 5 rfl ?_
        refine own_iload_n X216 hx (hb hby at_5) rfl 6 rfl ?_
        refine own_pureS X216 hx hZ hown (own_w hw 0 rfl) (own_w hw 1 rfl) (own_w hw 2 rfl) (own_w hw 3 rfl) (by decide) [(.int x1)] [] 0 (rm_pick_0 l Z a0 hw [] x1 h0 n0 H q177) (by decide) (by decide) rfl rfl e216 (by rw [hml]; rfl) (lenOf pd_0 rfl) (Nat.le_of_eq rfl) (hb hby at_6) 9 rfl rfl (by decide) (by decide) fun T218 X218 e218 => ?_
        refine own_astore X218 hx (hb hby at_9) #[.val (.int x0), .val (.int x1), .val (.int x2), .val (.ref w_SqlText_Control_ALONE), .val (.ref w_SqlText_Control_NONE), .unset, .unset, .unset, .unset, .unset, .unset] rfl rfl 11 rfl ?_
        refine own_iload_n X218 hx (hb hby at_11) rfl 12 rfl ?_
        refine own_pureS X218 hx hZ hown (own_w hw 0 rfl) (own_w hw 1 rfl) (own_w hw 2 rfl) (own_w hw 3 rfl) (by decide) [(.int x2)] [] 0 (rm_pick_2 l Z a0 hw [] x2 h0 n0 H q178) (by decide) (by decide) rfl rfl e218 (by rw [hml]; rfl) (lenOf pd_0 rfl) (Nat.le_of_eq rfl) (hb hby at_12) 15 rfl rfl (by decide) (by decide) fun T220 X220 e220 => ?_
        refine own_astore X220 hx (hb hby at_15) #[.val (.int x0), .val (.int x1), .val (.int x2), .val (.ref w_SqlText_Control_ALONE), .val (.ref w_SqlText_Control_NONE), .val (.ref w_SqlText_Control_WITH_WORK), .unset, .unset, .unset, .unset, .unset] rfl rfl 17 rfl ?_
        refine own_aload_n X220 hx (hb hby at_17) rfl rfl 18 rfl ?_
        refine own_aload X220 hx (hb hby at_18) rfl rfl 20 rfl ?_
        refine own_pureV X220 hx hZ hown (own_w hw 10 rfl) (own_w hw 11 rfl) (notFace_of_selects (args := #[]) (mvT hZ (own_w hw 13 rfl))) (own_w hw 13 rfl) (own_w hw 12 rfl) (own_w hw 6 rfl) (own_w hw 14 rfl) (by decide) w_SqlText_Control_ALONE [(.ref w_SqlText_Control_NONE)] [] 0 (rm_then_4 l Z a0 hw []  h0 n0 H) (by decide) (by decide) rfl rfl e220 E_w_SqlText_Control_ALONE (by rw [hml]; rfl) (lenOf pd_1 rfl) (Nat.le_of_eq rfl) (hb hby at_20) 23 rfl rfl (by decide) (by decide) fun T222 X222 e222 => ?_
        refine own_astore X222 hx (hb hby at_23) #[.val (.int x0), .val (.int x1), .val (.int x2), .val (.ref w_SqlText_Control_ALONE), .val (.ref w_SqlText_Control_NONE), .val (.ref w_SqlText_Control_WITH_WORK), .val (.ref w_SqlText_Control_WITH_WORK), .unset, .unset, .unset, .unset] rfl rfl 25 rfl ?_
        refine own_aload_n X222 hx (hb hby at_25) rfl rfl 26 rfl ?_
        refine own_getS X222 hx hZ hown (host := "") (Or.inl (own_w hw 5 rfl)) Via.refl e222 S_w_SqlText_Control_NONE (hb hby at_26) 29 rfl fun T223 X223 e223 => ?_
        refine own_acmp X223 hx false (hb hby at_29) rfl rfl (decide_eq_false fun q => ne_w_SqlText_Control_ALONE_w_SqlText_Control_NONE (Value.ref.inj q)) 44 (by decide) (by decide) ?_
        refine own_iconst X223 hx (hb hby at_44) (0 : Int32) rfl 45 rfl ?_
        refine own_istore X223 hx (hb hby at_45) #[.val (.int x0), .val (.int x1), .val (.int x2), .val (.ref w_SqlText_Control_ALONE), .val (.ref w_SqlText_Control_NONE), .val (.ref w_SqlText_Control_WITH_WORK), .val (.ref w_SqlText_Control_WITH_WORK), .val (.int (0 : Int32)), .unset, .unset, .unset] rfl 47 rfl ?_
        refine own_iload X223 hx (hb hby at_47) rfl 49 rfl ?_
        refine own_ifY X223 hx (hb hby at_49) ((if0 _ _).trans (teq (by decide : (0 : Int32) = (0 : Int32))).1) 70 (by decide) (by decide) ?_
        refine own_aload X223 hx (hb hby at_70) rfl rfl 72 rfl ?_
        refine own_getS X223 hx hZ hown (host := "") (Or.inl (own_w hw 8 rfl)) Via.refl e223 S_w_SqlText_Control_WITH_WORK (hb hby at_72) 75 rfl fun T224 X224 e224 => ?_
        refine own_acmp X224 hx true (hb hby at_75) rfl rfl (decide_eq_true rfl) 78 (by decide) (by decide) ?_
        refine own_iconst X224 hx (hb hby at_78) (1 : Int32) rfl 79 rfl ?_
        refine own_goto X224 hx (hb hby at_79) 83 (by decide) (by decide) ?_
        refine own_istore X224 hx (hb hby at_83) #[.val (.int x0), .val (.int x1), .val (.int x2), .val (.ref w_SqlText_Control_ALONE), .val (.ref w_SqlText_Control_NONE), .val (.ref w_SqlText_Control_WITH_WORK), .val (.ref w_SqlText_Control_WITH_WORK), .val (.int (0 : Int32)), .val (.int (1 : Int32)), .unset, .unset] rfl 85 rfl ?_
        refine own_aload X224 hx (hb hby at_85) rfl rfl 87 rfl ?_
        refine own_aload X224 hx (hb hby at_87) rfl rfl 89 rfl ?_
        refine own_aload_n X224 hx (hb hby at_89) rfl rfl 90 rfl ?_
        refine own_pureV X224 hx hZ hown (own_w hw 10 rfl) (own_w hw 11 rfl) (notFace_of_selects (args := #[]) (mvT hZ (own_w hw 13 rfl))) (own_w hw 13 rfl) (own_w hw 12 rfl) (own_w hw 6 rfl) (own_w hw 14 rfl) (by decide) w_SqlText_Control_NONE [(.ref w_SqlText_Control_ALONE)] [(.ref w_SqlText_Control_WITH_WORK)] 1 (rm_then_2 l Z a0 hw []  h0 n0 H) (by decide) (by decide) rfl rfl e224 E_w_SqlText_Control_NONE (by rw [hml]; rfl) (lenOf pd_1 rfl) (Nat.le_of_eq rfl) (hb hby at_90) 93 rfl rfl (by decide) (by decide) fun T226 X226 e226 => ?_
        refine own_acmp X226 hx true (hb hby at_93) rfl rfl (decide_eq_true rfl) 96 (by decide) (by decide) ?_
        refine own_iconst X226 hx (hb hby at_96) (1 : Int32) rfl 97 rfl ?_
        refine own_goto X226 hx (hb hby at_97) 101 (by decide) (by decide) ?_
        refine own_istore X226 hx (hb hby at_101) #[.val (.int x0), .val (.int x1), .val (.int x2), .val (.ref w_SqlText_Control_ALONE), .val (.ref w_SqlText_Control_NONE), .val (.ref w_SqlText_Control_WITH_WORK), .val (.ref w_SqlText_Control_WITH_WORK), .val (.int (0 : Int32)), .val (.int (1 : Int32)), .val (.int (1 : Int32)), .unset] rfl 103 rfl ?_
        refine own_aload X226 hx (hb hby at_103) rfl rfl 105 rfl ?_
        refine own_aload X226 hx (hb hby at_105) rfl rfl 107 rfl ?_
        refine own_pureV X226 hx hZ hown (own_w hw 10 rfl) (own_w hw 11 rfl) (notFace_of_selects (args := #[]) (mvT hZ (own_w hw 13 rfl))) (own_w hw 13 rfl) (own_w hw 12 rfl) (own_w hw 6 rfl) (own_w hw 14 rfl) (by decide) w_SqlText_Control_WITH_WORK [(.ref w_SqlText_Control_WITH_WORK)] [] 0 (rm_then_8 l Z a0 hw []  h0 n0 H) (by decide) (by decide) rfl rfl e226 E_w_SqlText_Control_WITH_WORK (by rw [hml]; rfl) (lenOf pd_1 rfl) (Nat.le_of_eq rfl) (hb hby at_107) 110 rfl rfl (by decide) (by decide) fun T228 X228 e228 => ?_
        refine own_aload_n X228 hx (hb hby at_110) rfl rfl 111 rfl ?_
        refine own_aload X228 hx (hb hby at_111) rfl rfl 113 rfl ?_
        refine own_aload X228 hx (hb hby at_113) rfl rfl 115 rfl ?_
        refine own_pureV X228 hx hZ hown (own_w hw 10 rfl) (own_w hw 11 rfl) (notFace_of_selects (args := #[]) (mvT hZ (own_w hw 13 rfl))) (own_w hw 13 rfl) (own_w hw 12 rfl) (own_w hw 6 rfl) (own_w hw 14 rfl) (by decide) w_SqlText_Control_NONE [(.ref w_SqlText_Control_WITH_WORK)] [(.ref w_SqlText_Control_ALONE), (.ref w_SqlText_Control_WITH_WORK)] 2 (rm_then_3 l Z a0 hw []  h0 n0 H) (by decide) (by decide) rfl rfl e228 E_w_SqlText_Control_NONE (by rw [hml]; rfl) (lenOf pd_1 rfl) (Nat.le_of_eq rfl) (hb hby at_115) 118 rfl rfl (by decide) (by decide) fun T230 X230 e230 => ?_
        refine own_pureV X230 hx hZ hown (own_w hw 10 rfl) (own_w hw 11 rfl) (notFace_of_selects (args := #[]) (mvT hZ (own_w hw 13 rfl))) (own_w hw 13 rfl) (own_w hw 12 rfl) (own_w hw 6 rfl) (own_w hw 14 rfl) (by decide) w_SqlText_Control_ALONE [(.ref w_SqlText_Control_WITH_WORK)] [(.ref w_SqlText_Control_WITH_WORK)] 1 (rm_then_9 l Z a0 hw []  h0 n0 H) (by decide) (by decide) rfl rfl e230 E_w_SqlText_Control_ALONE (by rw [hml]; rfl) (lenOf pd_1 rfl) (Nat.le_of_eq rfl) (hb hby at_118) 121 rfl rfl (by decide) (by decide) fun T232 X232 e232 => ?_
        refine own_acmp X232 hx true (hb hby at_121) rfl rfl (decide_eq_true rfl) 124 (by decide) (by decide) ?_
        refine own_iconst X232 hx (hb hby at_124) (1 : Int32) rfl 125 rfl ?_
        refine own_goto X232 hx (hb hby at_125) 129 (by decide) (by decide) ?_
        refine own_istore X232 hx (hb hby at_129) #[.val (.int x0), .val (.int x1), .val (.int x2), .val (.ref w_SqlText_Control_ALONE), .val (.ref w_SqlText_Control_NONE), .val (.ref w_SqlText_Control_WITH_WORK), .val (.ref w_SqlText_Control_WITH_WORK), .val (.int (0 : Int32)), .val (.int (1 : Int32)), .val (.int (1 : Int32)), .val (.int (1 : Int32))] rfl 131 rfl ?_
        refine own_iload X232 hx (hb hby at_131) rfl 133 rfl ?_
        refine own_ifN X232 hx (hb hby at_133) ((if0 _ _).trans (feq (by decide : ¬ ((1 : Int32) = (0 : Int32)))).1) 136 rfl ?_
        refine own_iload X232 hx (hb hby at_136) rfl 138 rfl ?_
        refine own_ifN X232 hx (hb hby at_138) ((if0 _ _).trans (feq (by decide : ¬ ((1 : Int32) = (0 : Int32)))).1) 141 rfl ?_
        refine own_iload X232 hx (hb hby at_141) rfl 143 rfl ?_
        refine own_ifN X232 hx (hb hby at_143) ((if0 _ _).trans (feq (by decide : ¬ ((1 : Int32) = (0 : Int32)))).1) 146 rfl ?_
        refine own_iconst X232 hx (hb hby at_146) (1 : Int32) rfl 147 rfl ?_
        refine own_goto X232 hx (hb hby at_147) 151 (by decide) (by decide) ?_
        exact own_retZ X232 hx hk hret (hb hby at_151) rfl ⟨rfl, Fr.nil _⟩ (by decide) (by decide)
    · skip
      rcases own_mod3 x2 with q233 | q233 | q233
      · skip
        refine own_iload_n X0 hx (hb hby at_0) rfl 1 rfl ?_
        refine own_pureS X0 hx hZ hown (own_w hw 0 rfl) (own_w hw 1 rfl) (own_w hw 2 rfl) (own_w hw 3 rfl) (by decide) [(.int x0)] [] 0 (rm_pick_1 l Z a0 hw [] x0 h0 n0 H q1) (by decide) (by decide) rfl rfl e0 (by rw [hml]; rfl) (lenOf pd_0 rfl) (Nat.le_of_eq rfl) (hb hby at_1) 4 rfl rfl (by decide) (by decide) fun T235 X235 e235 => ?_
        refine own_astore_n X235 hx (hb hby at_4) #[.val (.int x0), .val (.int x1), .val (.int x2), .val (.ref w_SqlText_Control_ALONE), .unset, .unset, .unset, .unset, .unset, .unset, .unset] rfl rfl 5 rfl ?_
        refine own_iload_n X235 hx (hb hby at_5) rfl 6 rfl ?_
        refine own_pureS X235 hx hZ hown (own_w hw 0 rfl) (own_w hw 1 rfl) (own_w hw 2 rfl) (own_w hw 3 rfl) (by decide) [(.int x1)] [] 0 (rm_pick_1 l Z a0 hw [] x1 h0 n0 H q177) (by decide) (by decide) rfl rfl e235 (by rw [hml]; rfl) (lenOf pd_0 rfl) (Nat.le_of_eq rfl) (hb hby at_6) 9 rfl rfl (by decide) (by decide) fun T237 X237 e237 => ?_
        refine own_astore X237 hx (hb hby at_9) #[.val (.int x0), .val (.int x1), .val (.int x2), .val (.ref w_SqlText_Control_ALONE), .val (.ref w_SqlText_Control_ALONE), .unset, .unset, .unset, .unset, .unset, .unset] rfl rfl 11 rfl ?_
        refine own_iload_n X237 hx (hb hby at_11) rfl 12 rfl ?_
        refine own_pureS X237 hx hZ hown (own_w hw 0 rfl) (own_w hw 1 rfl) (own_w hw 2 rfl) (own_w hw 3 rfl) (by decide) [(.int x2)] [] 0 (rm_pick_0 l Z a0 hw [] x2 h0 n0 H q233) (by decide) (by decide) rfl rfl e237 (by rw [hml]; rfl) (lenOf pd_0 rfl) (Nat.le_of_eq rfl) (hb hby at_12) 15 rfl rfl (by decide) (by decide) fun T239 X239 e239 => ?_
        refine own_astore X239 hx (hb hby at_15) #[.val (.int x0), .val (.int x1), .val (.int x2), .val (.ref w_SqlText_Control_ALONE), .val (.ref w_SqlText_Control_ALONE), .val (.ref w_SqlText_Control_NONE), .unset, .unset, .unset, .unset, .unset] rfl rfl 17 rfl ?_
        refine own_aload_n X239 hx (hb hby at_17) rfl rfl 18 rfl ?_
        refine own_aload X239 hx (hb hby at_18) rfl rfl 20 rfl ?_
        refine own_pureV X239 hx hZ hown (own_w hw 10 rfl) (own_w hw 11 rfl) (notFace_of_selects (args := #[]) (mvT hZ (own_w hw 13 rfl))) (own_w hw 13 rfl) (own_w hw 12 rfl) (own_w hw 6 rfl) (own_w hw 14 rfl) (by decide) w_SqlText_Control_ALONE [(.ref w_SqlText_Control_ALONE)] [] 0 (rm_then_7 l Z a0 hw []  h0 n0 H) (by decide) (by decide) rfl rfl e239 E_w_SqlText_Control_ALONE (by rw [hml]; rfl) (lenOf pd_1 rfl) (Nat.le_of_eq rfl) (hb hby at_20) 23 rfl rfl (by decide) (by decide) fun T241 X241 e241 => ?_
        refine own_astore X241 hx (hb hby at_23) #[.val (.int x0), .val (.int x1), .val (.int x2), .val (.ref w_SqlText_Control_ALONE), .val (.ref w_SqlText_Control_ALONE), .val (.ref w_SqlText_Control_NONE), .val (.ref w_SqlText_Control_WITH_WORK), .unset, .unset, .unset, .unset] rfl rfl 25 rfl ?_
        refine own_aload_n X241 hx (hb hby at_25) rfl rfl 26 rfl ?_
        refine own_getS X241 hx hZ hown (host := "") (Or.inl (own_w hw 5 rfl)) Via.refl e241 S_w_SqlText_Control_NONE (hb hby at_26) 29 rfl fun T242 X242 e242 => ?_
        refine own_acmp X242 hx false (hb hby at_29) rfl rfl (decide_eq_false fun q => ne_w_SqlText_Control_ALONE_w_SqlText_Control_NONE (Value.ref.inj q)) 44 (by decide) (by decide) ?_
        refine own_iconst X242 hx (hb hby at_44) (0 : Int32) rfl 45 rfl ?_
        refine own_istore X242 hx (hb hby at_45) #[.val (.int x0), .val (.int x1), .val (.int x2), .val (.ref w_SqlText_Control_ALONE), .val (.ref w_SqlText_Control_ALONE), .val (.ref w_SqlText_Control_NONE), .val (.ref w_SqlText_Control_WITH_WORK), .val (.int (0 : Int32)), .unset, .unset, .unset] rfl 47 rfl ?_
        refine own_iload X242 hx (hb hby at_47) rfl 49 rfl ?_
        refine own_ifY X242 hx (hb hby at_49) ((if0 _ _).trans (teq (by decide : (0 : Int32) = (0 : Int32))).1) 70 (by decide) (by decide) ?_
        refine own_aload X242 hx (hb hby at_70) rfl rfl 72 rfl ?_
        refine own_getS X242 hx hZ hown (host := "") (Or.inl (own_w hw 8 rfl)) Via.refl e242 S_w_SqlText_Control_WITH_WORK (hb hby at_72) 75 rfl fun T243 X243 e243 => ?_
        refine own_acmp X243 hx true (hb hby at_75) rfl rfl (decide_eq_true rfl) 78 (by decide) (by decide) ?_
        refine own_iconst X243 hx (hb hby at_78) (1 : Int32) rfl 79 rfl ?_
        refine own_goto X243 hx (hb hby at_79) 83 (by decide) (by decide) ?_
        refine own_istore X243 hx (hb hby at_83) #[.val (.int x0), .val (.int x1), .val (.int x2), .val (.ref w_SqlText_Control_ALONE), .val (.ref w_SqlText_Control_ALONE), .val (.ref w_SqlText_Control_NONE), .val (.ref w_SqlText_Control_WITH_WORK), .val (.int (0 : Int32)), .val (.int (1 : Int32)), .unset, .unset] rfl 85 rfl ?_
        refine own_aload X243 hx (hb hby at_85) rfl rfl 87 rfl ?_
        refine own_aload X243 hx (hb hby at_87) rfl rfl 89 rfl ?_
        refine own_aload_n X243 hx (hb hby at_89) rfl rfl 90 rfl ?_
        refine own_pureV X243 hx hZ hown (own_w hw 10 rfl) (own_w hw 11 rfl) (notFace_of_selects (args := #[]) (mvT hZ (own_w hw 13 rfl))) (own_w hw 13 rfl) (own_w hw 12 rfl) (own_w hw 6 rfl) (own_w hw 14 rfl) (by decide) w_SqlText_Control_ALONE [(.ref w_SqlText_Control_ALONE)] [(.ref w_SqlText_Control_WITH_WORK)] 1 (rm_then_7 l Z a0 hw []  h0 n0 H) (by decide) (by decide) rfl rfl e243 E_w_SqlText_Control_ALONE (by rw [hml]; rfl) (lenOf pd_1 rfl) (Nat.le_of_eq rfl) (hb hby at_90) 93 rfl rfl (by decide) (by decide) fun T245 X245 e245 => ?_
        refine own_acmp X245 hx true (hb hby at_93) rfl rfl (decide_eq_true rfl) 96 (by decide) (by decide) ?_
        refine own_iconst X245 hx (hb hby at_96) (1 : Int32) rfl 97 rfl ?_
        refine own_goto X245 hx (hb hby at_97) 101 (by decide) (by decide) ?_
        refine own_istore X245 hx (hb hby at_101) #[.val (.int x0), .val (.int x1), .val (.int x2), .val (.ref w_SqlText_Control_ALONE), .val (.ref w_SqlText_Control_ALONE), .val (.ref w_SqlText_Control_NONE), .val (.ref w_SqlText_Control_WITH_WORK), .val (.int (0 : Int32)), .val (.int (1 : Int32)), .val (.int (1 : Int32)), .unset] rfl 103 rfl ?_
        refine own_aload X245 hx (hb hby at_103) rfl rfl 105 rfl ?_
        refine own_aload X245 hx (hb hby at_105) rfl rfl 107 rfl ?_
        refine own_pureV X245 hx hZ hown (own_w hw 10 rfl) (own_w hw 11 rfl) (notFace_of_selects (args := #[]) (mvT hZ (own_w hw 13 rfl))) (own_w hw 13 rfl) (own_w hw 12 rfl) (own_w hw 6 rfl) (own_w hw 14 rfl) (by decide) w_SqlText_Control_WITH_WORK [(.ref w_SqlText_Control_NONE)] [] 0 (rm_then_5 l Z a0 hw []  h0 n0 H) (by decide) (by decide) rfl rfl e245 E_w_SqlText_Control_WITH_WORK (by rw [hml]; rfl) (lenOf pd_1 rfl) (Nat.le_of_eq rfl) (hb hby at_107) 110 rfl rfl (by decide) (by decide) fun T247 X247 e247 => ?_
        refine own_aload_n X247 hx (hb hby at_110) rfl rfl 111 rfl ?_
        refine own_aload X247 hx (hb hby at_111) rfl rfl 113 rfl ?_
        refine own_aload X247 hx (hb hby at_113) rfl rfl 115 rfl ?_
        refine own_pureV X247 hx hZ hown (own_w hw 10 rfl) (own_w hw 11 rfl) (notFace_of_selects (args := #[]) (mvT hZ (own_w hw 13 rfl))) (own_w hw 13 rfl) (own_w hw 12 rfl) (own_w hw 6 rfl) (own_w hw 14 rfl) (by decide) w_SqlText_Control_ALONE [(.ref w_SqlText_Control_NONE)] [(.ref w_SqlText_Control_ALONE), (.ref w_SqlText_Control_WITH_WORK)] 2 (rm_then_4 l Z a0 hw []  h0 n0 H) (by decide) (by decide) rfl rfl e247 E_w_SqlText_Control_ALONE (by rw [hml]; rfl) (lenOf pd_1 rfl) (Nat.le_of_eq rfl) (hb hby at_115) 118 rfl rfl (by decide) (by decide) fun T249 X249 e249 => ?_
        refine own_pureV X249 hx hZ hown (own_w hw 10 rfl) (own_w hw 11 rfl) (notFace_of_selects (args := #[]) (mvT hZ (own_w hw 13 rfl))) (own_w hw 13 rfl) (own_w hw 12 rfl) (own_w hw 6 rfl) (own_w hw 14 rfl) (by decide) w_SqlText_Control_ALONE [(.ref w_SqlText_Control_WITH_WORK)] [(.ref w_SqlText_Control_WITH_WORK)] 1 (rm_then_9 l Z a0 hw []  h0 n0 H) (by decide) (by decide) rfl rfl e249 E_w_SqlText_Control_ALONE (by rw [hml]; rfl) (lenOf pd_1 rfl) (Nat.le_of_eq rfl) (hb hby at_118) 121 rfl rfl (by decide) (by decide) fun T251 X251 e251 => ?_
        refine own_acmp X251 hx true (hb hby at_121) rfl rfl (decide_eq_true rfl) 124 (by decide) (by decide) ?_
        refine own_iconst X251 hx (hb hby at_124) (1 : Int32) rfl 125 rfl ?_
        refine own_goto X251 hx (hb hby at_125) 129 (by decide) (by decide) ?_
        refine own_istore X251 hx (hb hby at_129) #[.val (.int x0), .val (.int x1), .val (.int x2), .val (.ref w_SqlText_Control_ALONE), .val (.ref w_SqlText_Control_ALONE), .val (.ref w_SqlText_Control_NONE), .val (.ref w_SqlText_Control_WITH_WORK), .val (.int (0 : Int32)), .val (.int (1 : Int32)), .val (.int (1 : Int32)), .val (.int (1 : Int32))] rfl 131 rfl ?_
        refine own_iload X251 hx (hb hby at_131) rfl 133 rfl ?_
        refine own_ifN X251 hx (hb hby at_133) ((if0 _ _).trans (feq (by decide : ¬ ((1 : Int32) = (0 : Int32)))).1) 136 rfl ?_
        refine own_iload X251 hx (hb hby at_136) rfl 138 rfl ?_
        refine own_ifN X251 hx (hb hby at_138) ((if0 _ _).trans (feq (by decide : ¬ ((1 : Int32) = (0 : Int32)))).1) 141 rfl ?_
        refine own_iload X251 hx (hb hby at_141) rfl 143 rfl ?_
        refine own_ifN X251 hx (hb hby at_143) ((if0 _ _).trans (feq (by decide : ¬ ((1 : Int32) = (0 : Int32)))).1) 146 rfl ?_
        refine own_iconst X251 hx (hb hby at_146) (1 : Int32) rfl 147 rfl ?_
        refine own_goto X251 hx (hb hby at_147) 151 (by decide) (by decide) ?_
        exact own_retZ X251 hx hk hret (hb hby at_151) rfl ⟨rfl, Fr.nil _⟩ (by decide) (by decide)
      · skip
        refine own_iload_n X0 hx (hb hby at_0) rfl 1 rfl ?_
        refine own_pureS X0 hx hZ hown (own_w hw 0 rfl) (own_w hw 1 rfl) (own_w hw 2 rfl) (own_w hw 3 rfl) (by decide) [(.int x0)] [] 0 (rm_pick_1 l Z a0 hw [] x0 h0 n0 H q1) (by decide) (by decide) rfl rfl e0 (by rw [hml]; rfl) (lenOf pd_0 rfl) (Nat.le_of_eq rfl) (hb hby at_1) 4 rfl rfl (by decide) (by decide) fun T253 X253 e253 => ?_
        refine own_astore_n X253 hx (hb hby at_4) #[.val (.int x0), .val (.int x1), .val (.int x2), .val (.ref w_SqlText_Control_ALONE), .unset, .unset, .unset, .unset, .unset, .unset, .unset] rfl rfl 5 rfl ?_
        refine own_iload_n X253 hx (hb hby at_5) rfl 6 rfl ?_
        refine own_pureS X253 hx hZ hown (own_w hw 0 rfl) (own_w hw 1 rfl) (own_w hw 2 rfl) (own_w hw 3 rfl) (by decide) [(.int x1)] [] 0 (rm_pick_1 l Z a0 hw [] x1 h0 n0 H q177) (by decide) (by decide) rfl rfl e253 (by rw [hml]; rfl) (lenOf pd_0 rfl) (Nat.le_of_eq rfl) (hb hby at_6) 9 rfl rfl (by decide) (by decide) fun T255 X255 e255 => ?_
        refine own_astore X255 hx (hb hby at_9) #[.val (.int x0), .val (.int x1), .val (.int x2), .val (.ref w_SqlText_Control_ALONE), .val (.ref w_SqlText_Control_ALONE), .unset, .unset, .unset, .unset, .unset, .unset] rfl rfl 11 rfl ?_
        refine own_iload_n X255 hx (hb hby at_11) rfl 12 rfl ?_
        refine own_pureS X255 hx hZ hown (own_w hw 0 rfl) (own_w hw 1 rfl) (own_w hw 2 rfl) (own_w hw 3 rfl) (by decide) [(.int x2)] [] 0 (rm_pick_1 l Z a0 hw [] x2 h0 n0 H q233) (by decide) (by decide) rfl rfl e255 (by rw [hml]; rfl) (lenOf pd_0 rfl) (Nat.le_of_eq rfl) (hb hby at_12) 15 rfl rfl (by decide) (by decide) fun T257 X257 e257 => ?_
        refine own_astore X257 hx (hb hby at_15) #[.val (.int x0), .val (.int x1), .val (.int x2), .val (.ref w_SqlText_Control_ALONE), .val (.ref w_SqlText_Control_ALONE), .val (.ref w_SqlText_Control_ALONE), .unset, .unset, .unset, .unset, .unset] rfl rfl 17 rfl ?_
        refine own_aload_n X257 hx (hb hby at_17) rfl rfl 18 rfl ?_
        refine own_aload X257 hx (hb hby at_18) rfl rfl 20 rfl ?_
        refine own_pureV X257 hx hZ hown (own_w hw 10 rfl) (own_w hw 11 rfl) (notFace_of_selects (args := #[]) (mvT hZ (own_w hw 13 rfl))) (own_w hw 13 rfl) (own_w hw 12 rfl) (own_w hw 6 rfl) (own_w hw 14 rfl) (by decide) w_SqlText_Control_ALONE [(.ref w_SqlText_Control_ALONE)] [] 0 (rm_then_7 l Z a0 hw []  h0 n0 H) (by decide) (by decide) rfl rfl e257 E_w_SqlText_Control_ALONE (by rw [hml]; rfl) (lenOf pd_1 rfl) (Nat.le_of_eq rfl) (hb hby at_20) 23 rfl rfl (by decide) (by decide) fun T259 X259 e259 => ?_
        refine own_astore X259 hx (hb hby at_23) #[.val (.int x0), .val (.int x1), .val (.int x2), .val (.ref w_SqlText_Control_ALONE), .val (.ref w_SqlText_Control_ALONE), .val (.ref w_SqlText_Control_ALONE), .val (.ref w_SqlText_Control_WITH_WORK), .unset, .unset, .unset, .unset] rfl rfl 25 rfl ?_
        refine own_aload_n X259 hx (hb hby at_25) rfl rfl 26 rfl ?_
        refine own_getS X259 hx hZ hown (host := "") (Or.inl (own_w hw 5 rfl)) Via.refl e259 S_w_SqlText_Control_NONE (hb hby at_26) 29 rfl fun T260 X260 e260 => ?_
        refine own_acmp X260 hx false (hb hby at_29) rfl rfl (decide_eq_false fun q => ne_w_SqlText_Control_ALONE_w_SqlText_Control_NONE (Value.ref.inj q)) 44 (by decide) (by decide) ?_
        refine own_iconst X260 hx (hb hby at_44) (0 : Int32) rfl 45 rfl ?_
        refine own_istore X260 hx (hb hby at_45) #[.val (.int x0), .val (.int x1), .val (.int x2), .val (.ref w_SqlText_Control_ALONE), .val (.ref w_SqlText_Control_ALONE), .val (.ref w_SqlText_Control_ALONE), .val (.ref w_SqlText_Control_WITH_WORK), .val (.int (0 : Int32)), .unset, .unset, .unset] rfl 47 rfl ?_
        refine own_iload X260 hx (hb hby at_47) rfl 49 rfl ?_
        refine own_ifY X260 hx (hb hby at_49) ((if0 _ _).trans (teq (by decide : (0 : Int32) = (0 : Int32))).1) 70 (by decide) (by decide) ?_
        refine own_aload X260 hx (hb hby at_70) rfl rfl 72 rfl ?_
        refine own_getS X260 hx hZ hown (host := "") (Or.inl (own_w hw 8 rfl)) Via.refl e260 S_w_SqlText_Control_WITH_WORK (hb hby at_72) 75 rfl fun T261 X261 e261 => ?_
        refine own_acmp X261 hx true (hb hby at_75) rfl rfl (decide_eq_true rfl) 78 (by decide) (by decide) ?_
        refine own_iconst X261 hx (hb hby at_78) (1 : Int32) rfl 79 rfl ?_
        refine own_goto X261 hx (hb hby at_79) 83 (by decide) (by decide) ?_
        refine own_istore X261 hx (hb hby at_83) #[.val (.int x0), .val (.int x1), .val (.int x2), .val (.ref w_SqlText_Control_ALONE), .val (.ref w_SqlText_Control_ALONE), .val (.ref w_SqlText_Control_ALONE), .val (.ref w_SqlText_Control_WITH_WORK), .val (.int (0 : Int32)), .val (.int (1 : Int32)), .unset, .unset] rfl 85 rfl ?_
        refine own_aload X261 hx (hb hby at_85) rfl rfl 87 rfl ?_
        refine own_aload X261 hx (hb hby at_87) rfl rfl 89 rfl ?_
        refine own_aload_n X261 hx (hb hby at_89) rfl rfl 90 rfl ?_
        refine own_pureV X261 hx hZ hown (own_w hw 10 rfl) (own_w hw 11 rfl) (notFace_of_selects (args := #[]) (mvT hZ (own_w hw 13 rfl))) (own_w hw 13 rfl) (own_w hw 12 rfl) (own_w hw 6 rfl) (own_w hw 14 rfl) (by decide) w_SqlText_Control_ALONE [(.ref w_SqlText_Control_ALONE)] [(.ref w_SqlText_Control_WITH_WORK)] 1 (rm_then_7 l Z a0 hw []  h0 n0 H) (by decide) (by decide) rfl rfl e261 E_w_SqlText_Control_ALONE (by rw [hml]; rfl) (lenOf pd_1 rfl) (Nat.le_of_eq rfl) (hb hby at_90) 93 rfl rfl (by decide) (by decide) fun T263 X263 e263 => ?_
        refine own_acmp X263 hx true (hb hby at_93) rfl rfl (decide_eq_true rfl) 96 (by decide) (by decide) ?_
        refine own_iconst X263 hx (hb hby at_96) (1 : Int32) rfl 97 rfl ?_
        refine own_goto X263 hx (hb hby at_97) 101 (by decide) (by decide) ?_
        refine own_istore X263 hx (hb hby at_101) #[.val (.int x0), .val (.int x1), .val (.int x2), .val (.ref w_SqlText_Control_ALONE), .val (.ref w_SqlText_Control_ALONE), .val (.ref w_SqlText_Control_ALONE), .val (.ref w_SqlText_Control_WITH_WORK), .val (.int (0 : Int32)), .val (.int (1 : Int32)), .val (.int (1 : Int32)), .unset] rfl 103 rfl ?_
        refine own_aload X263 hx (hb hby at_103) rfl rfl 105 rfl ?_
        refine own_aload X263 hx (hb hby at_105) rfl rfl 107 rfl ?_
        refine own_pureV X263 hx hZ hown (own_w hw 10 rfl) (own_w hw 11 rfl) (notFace_of_selects (args := #[]) (mvT hZ (own_w hw 13 rfl))) (own_w hw 13 rfl) (own_w hw 12 rfl) (own_w hw 6 rfl) (own_w hw 14 rfl) (by decide) w_SqlText_Control_WITH_WORK [(.ref w_SqlText_Control_ALONE)] [] 0 (rm_then_6 l Z a0 hw []  h0 n0 H) (by decide) (by decide) rfl rfl e263 E_w_SqlText_Control_WITH_WORK (by rw [hml]; rfl) (lenOf pd_1 rfl) (Nat.le_of_eq rfl) (hb hby at_107) 110 rfl rfl (by decide) (by decide) fun T265 X265 e265 => ?_
        refine own_aload_n X265 hx (hb hby at_110) rfl rfl 111 rfl ?_
        refine own_aload X265 hx (hb hby at_111) rfl rfl 113 rfl ?_
        refine own_aload X265 hx (hb hby at_113) rfl rfl 115 rfl ?_
        refine own_pureV X265 hx hZ hown (own_w hw 10 rfl) (own_w hw 11 rfl) (notFace_of_selects (args := #[]) (mvT hZ (own_w hw 13 rfl))) (own_w hw 13 rfl) (own_w hw 12 rfl) (own_w hw 6 rfl) (own_w hw 14 rfl) (by decide) w_SqlText_Control_ALONE [(.ref w_SqlText_Control_ALONE)] [(.ref w_SqlText_Control_ALONE), (.ref w_SqlText_Control_WITH_WORK)] 2 (rm_then_7 l Z a0 hw []  h0 n0 H) (by decide) (by decide) rfl rfl e265 E_w_SqlText_Control_ALONE (by rw [hml]; rfl) (lenOf pd_1 rfl) (Nat.le_of_eq rfl) (hb hby at_115) 118 rfl rfl (by decide) (by decide) fun T267 X267 e267 => ?_
        refine own_pureV X267 hx hZ hown (own_w hw 10 rfl) (own_w hw 11 rfl) (notFace_of_selects (args := #[]) (mvT hZ (own_w hw 13 rfl))) (own_w hw 13 rfl) (own_w hw 12 rfl) (own_w hw 6 rfl) (own_w hw 14 rfl) (by decide) w_SqlText_Control_ALONE [(.ref w_SqlText_Control_WITH_WORK)] [(.ref w_SqlText_Control_WITH_WORK)] 1 (rm_then_9 l Z a0 hw []  h0 n0 H) (by decide) (by decide) rfl rfl e267 E_w_SqlText_Control_ALONE (by rw [hml]; rfl) (lenOf pd_1 rfl) (Nat.le_of_eq rfl) (hb hby at_118) 121 rfl rfl (by decide) (by decide) fun T269 X269 e269 => ?_
        refine own_acmp X269 hx true (hb hby at_121) rfl rfl (decide_eq_true rfl) 124 (by decide) (by decide) ?_
        refine own_iconst X269 hx (hb hby at_124) (1 : Int32) rfl 125 rfl ?_
        refine own_goto X269 hx (hb hby at_125) 129 (by decide) (by decide) ?_
        refine own_istore X269 hx (hb hby at_129) #[.val (.int x0), .val (.int x1), .val (.int x2), .val (.ref w_SqlText_Control_ALONE), .val (.ref w_SqlText_Control_ALONE), .val (.ref w_SqlText_Control_ALONE), .val (.ref w_SqlText_Control_WITH_WORK), .val (.int (0 : Int32)), .val (.int (1 : Int32)), .val (.int (1 : Int32)), .val (.int (1 : Int32))] rfl 131 rfl ?_
        refine own_iload X269 hx (hb hby at_131) rfl 133 rfl ?_
        refine own_ifN X269 hx (hb hby at_133) ((if0 _ _).trans (feq (by decide : ¬ ((1 : Int32) = (0 : Int32)))).1) 136 rfl ?_
        refine own_iload X269 hx (hb hby at_136) rfl 138 rfl ?_
        refine own_ifN X269 hx (hb hby at_138) ((if0 _ _).trans (feq (by decide : ¬ ((1 : Int32) = (0 : Int32)))).1) 141 rfl ?_
        refine own_iload X269 hx (hb hby at_141) rfl 143 rfl ?_
        refine own_ifN X269 hx (hb hby at_143) ((if0 _ _).trans (feq (by decide : ¬ ((1 : Int32) = (0 : Int32)))).1) 146 rfl ?_
        refine own_iconst X269 hx (hb hby at_146) (1 : Int32) rfl 147 rfl ?_
        refine own_goto X269 hx (hb hby at_147) 151 (by decide) (by decide) ?_
        exact own_retZ X269 hx hk hret (hb hby at_151) rfl ⟨rfl, Fr.nil _⟩ (by decide) (by decide)
      · skip
        refine own_iload_n X0 hx (hb hby at_0) rfl 1 rfl ?_
        refine own_pureS X0 hx hZ hown (own_w hw 0 rfl) (own_w hw 1 rfl) (own_w hw 2 rfl) (own_w hw 3 rfl) (by decide) [(.int x0)] [] 0 (rm_pick_1 l Z a0 hw [] x0 h0 n0 H q1) (by decide) (by decide) rfl rfl e0 (by rw [hml]; rfl) (lenOf pd_0 rfl) (Nat.le_of_eq rfl) (hb hby at_1) 4 rfl rfl (by decide) (by decide) fun T271 X271 e271 => ?_
        refine own_astore_n X271 hx (hb hby at_4) #[.val (.int x0), .val (.int x1), .val (.int x2), .val (.ref w_SqlText_Control_ALONE), .unset, .unset, .unset, .unset, .unset, .unset, .unset] rfl rfl 5 rfl ?_
        refine own_iload_n X271 hx (hb hby at_5) rfl 6 rfl ?_
        refine own_pureS X271 hx hZ hown (own_w hw 0 rfl) (own_w hw 1 rfl) (own_w hw 2 rfl) (own_w hw 3 rfl) (by decide) [(.int x1)] [] 0 (rm_pick_1 l Z a0 hw [] x1 h0 n0 H q177) (by decide) (by decide) rfl rfl e271 (by rw [hml]; rfl) (lenOf pd_0 rfl) (Nat.le_of_eq rfl) (hb hby at_6) 9 rfl rfl (by decide) (by decide) fun T273 X273 e273 => ?_
        refine own_astore X273 hx (hb hby at_9) #[.val (.int x0), .val (.int x1), .val (.int x2), .val (.ref w_SqlText_Control_ALONE), .val (.ref w_SqlText_Control_ALONE), .unset, .unset, .unset, .unset, .unset, .unset] rfl rfl 11 rfl ?_
        refine own_iload_n X273 hx (hb hby at_11) rfl 12 rfl ?_
        refine own_pureS X273 hx hZ hown (own_w hw 0 rfl) (own_w hw 1 rfl) (own_w hw 2 rfl) (own_w hw 3 rfl) (by decide) [(.int x2)] [] 0 (rm_pick_2 l Z a0 hw [] x2 h0 n0 H q233) (by decide) (by decide) rfl rfl e273 (by rw [hml]; rfl) (lenOf pd_0 rfl) (Nat.le_of_eq rfl) (hb hby at_12) 15 rfl rfl (by decide) (by decide) fun T275 X275 e275 => ?_
        refine own_astore X275 hx (hb hby at_15) #[.val (.int x0), .val (.int x1), .val (.int x2), .val (.ref w_SqlText_Control_ALONE), .val (.ref w_SqlText_Control_ALONE), .val (.ref w_SqlText_Control_WITH_WORK), .unset, .unset, .unset, .unset, .unset] rfl rfl 17 rfl ?_
        refine own_aload_n X275 hx (hb hby at_17) rfl rfl 18 rfl ?_
        refine own_aload X275 hx (hb hby at_18) rfl rfl 20 rfl ?_
        refine own_pureV X275 hx hZ hown (own_w hw 10 rfl) (own_w hw 11 rfl) (notFace_of_selects (args := #[]) (mvT hZ (own_w hw 13 rfl))) (own_w hw 13 rfl) (own_w hw 12 rfl) (own_w hw 6 rfl) (own_w hw 14 rfl) (by decide) w_SqlText_Control_ALONE [(.ref w_SqlText_Control_ALONE)] [] 0 (rm_then_7 l Z a0 hw []  h0 n0 H) (by decide) (by decide) rfl rfl e275 E_w_SqlText_Control_ALONE (by rw [hml]; rfl) (lenOf pd_1 rfl) (Nat.le_of_eq rfl) (hb hby at_20) 23 rfl rfl (by decide) (by decide) fun T277 X277 e277 => ?_
        refine own_astore X277 hx (hb hby at_23) #[.val (.int x0), .val (.int x1), .val (.int x2), .val (.ref w_SqlText_Control_ALONE), .val (.ref w_SqlText_Control_ALONE), .val (.ref w_SqlText_Control_WITH_WORK), .val (.ref w_SqlText_Control_WITH_WORK), .unset, .unset, .unset, .unset] rfl rfl 25 rfl ?_
        refine own_aload_n X277 hx (hb hby at_25) rfl rfl 26 rfl ?_
        refine own_getS X277 hx hZ hown (host := "") (Or.inl (own_w hw 5 rfl)) Via.refl e277 S_w_SqlText_Control_NONE (hb hby at_26) 29 rfl fun T278 X278 e278 => ?_
        refine own_acmp X278 hx false (hb hby at_29) rfl rfl (decide_eq_false fun q => ne_w_SqlText_Control_ALONE_w_SqlText_Control_NONE (Value.ref.inj q)) 44 (by decide) (by decide) ?_
        refine own_iconst X278 hx (hb hby at_44) (0 : Int32) rfl 45 rfl ?_
        refine own_istore X278 hx (hb hby at_45) #[.val (.int x0), .val (.int x1), .val (.int x2), .val (.ref w_SqlText_Control_ALONE), .val (.ref w_SqlText_Control_ALONE), .val (.ref w_SqlText_Control_WITH_WORK), .val (.ref w_SqlText_Control_WITH_WORK), .val (.int (0 : Int32)), .unset, .unset, .unset] rfl 47 rfl ?_
        refine own_iload X278 hx (hb hby at_47) rfl 49 rfl ?_
        refine own_ifY X278 hx (hb hby at_49) ((if0 _ _).trans (teq (by decide : (0 : Int32) = (0 : Int32))).1) 70 (by decide) (by decide) ?_
        refine own_aload X278 hx (hb hby at_70) rfl rfl 72 rfl ?_
        refine own_getS X278 hx hZ hown (host := "") (Or.inl (own_w hw 8 rfl)) Via.refl e278 S_w_SqlText_Control_WITH_WORK (hb hby at_72) 75 rfl fun T279 X279 e279 => ?_
        refine own_acmp X279 hx true (hb hby at_75) rfl rfl (decide_eq_true rfl) 78 (by decide) (by decide) ?_
        refine own_iconst X279 hx (hb hby at_78) (1 : Int32) rfl 79 rfl ?_
        refine own_goto X279 hx (hb hby at_79) 83 (by decide) (by decide) ?_
        refine own_istore X279 hx (hb hby at_83) #[.val (.int x0), .val (.int x1), .val (.int x2), .val (.ref w_SqlText_Control_ALONE), .val (.ref w_SqlText_Control_ALONE), .val (.ref w_SqlText_Control_WITH_WORK), .val (.ref w_SqlText_Control_WITH_WORK), .val (.int (0 : Int32)), .val (.int (1 : Int32)), .unset, .unset] rfl 85 rfl ?_
        refine own_aload X279 hx (hb hby at_85) rfl rfl 87 rfl ?_
        refine own_aload X279 hx (hb hby at_87) rfl rfl 89 rfl ?_
        refine own_aload_n X279 hx (hb hby at_89) rfl rfl 90 rfl ?_
        refine own_pureV X279 hx hZ hown (own_w hw 10 rfl) (own_w hw 11 rfl) (notFace_of_selects (args := #[]) (mvT hZ (own_w hw 13 rfl))) (own_w hw 13 rfl) (own_w hw 12 rfl) (own_w hw 6 rfl) (own_w hw 14 rfl) (by decide) w_SqlText_Control_ALONE [(.ref w_SqlText_Control_ALONE)] [(.ref w_SqlText_Control_WITH_WORK)] 1 (rm_then_7 l Z a0 hw []  h0 n0 H) (by decide) (by decide) rfl rfl e279 E_w_SqlText_Control_ALONE (by rw [hml]; rfl) (lenOf pd_1 rfl) (Nat.le_of_eq rfl) (hb hby at_90) 93 rfl rfl (by decide) (by decide) fun T281 X281 e281 => ?_
        refine own_acmp X281 hx true (hb hby at_93) rfl rfl (decide_eq_true rfl) 96 (by decide) (by decide) ?_
        refine own_iconst X281 hx (hb hby at_96) (1 : Int32) rfl 97 rfl ?_
        refine own_goto X281 hx (hb hby at_97) 101 (by decide) (by decide) ?_
        refine own_istore X281 hx (hb hby at_101) #[.val (.int x0), .val (.int x1), .val (.int x2), .val (.ref w_SqlText_Control_ALONE), .val (.ref w_SqlText_Control_ALONE), .val (.ref w_SqlText_Control_WITH_WORK), .val (.ref w_SqlText_Control_WITH_WORK), .val (.int (0 : Int32)), .val (.int (1 : Int32)), .val (.int (1 : Int32)), .unset] rfl 103 rfl ?_
        refine own_aload X281 hx (hb hby at_103) rfl rfl 105 rfl ?_
        refine own_aload X281 hx (hb hby at_105) rfl rfl 107 rfl ?_
        refine own_pureV X281 hx hZ hown (own_w hw 10 rfl) (own_w hw 11 rfl) (notFace_of_selects (args := #[]) (mvT hZ (own_w hw 13 rfl))) (own_w hw 13 rfl) (own_w hw 12 rfl) (own_w hw 6 rfl) (own_w hw 14 rfl) (by decide) w_SqlText_Control_WITH_WORK [(.ref w_SqlText_Control_WITH_WORK)] [] 0 (rm_then_8 l Z a0 hw []  h0 n0 H) (by decide) (by decide) rfl rfl e281 E_w_SqlText_Control_WITH_WORK (by rw [hml]; rfl) (lenOf pd_1 rfl) (Nat.le_of_eq rfl) (hb hby at_107) 110 rfl rfl (by decide) (by decide) fun T283 X283 e283 => ?_
        refine own_aload_n X283 hx (hb hby at_110) rfl rfl 111 rfl ?_
        refine own_aload X283 hx (hb hby at_111) rfl rfl 113 rfl ?_
        refine own_aload X283 hx (hb hby at_113) rfl rfl 115 rfl ?_
        refine own_pureV X283 hx hZ hown (own_w hw 10 rfl) (own_w hw 11 rfl) (notFace_of_selects (args := #[]) (mvT hZ (own_w hw 13 rfl))) (own_w hw 13 rfl) (own_w hw 12 rfl) (own_w hw 6 rfl) (own_w hw 14 rfl) (by decide) w_SqlText_Control_ALONE [(.ref w_SqlText_Control_WITH_WORK)] [(.ref w_SqlText_Control_ALONE), (.ref w_SqlText_Control_WITH_WORK)] 2 (rm_then_9 l Z a0 hw []  h0 n0 H) (by decide) (by decide) rfl rfl e283 E_w_SqlText_Control_ALONE (by rw [hml]; rfl) (lenOf pd_1 rfl) (Nat.le_of_eq rfl) (hb hby at_115) 118 rfl rfl (by decide) (by decide) fun T285 X285 e285 => ?_
        refine own_pureV X285 hx hZ hown (own_w hw 10 rfl) (own_w hw 11 rfl) (notFace_of_selects (args := #[]) (mvT hZ (own_w hw 13 rfl))) (own_w hw 13 rfl) (own_w hw 12 rfl) (own_w hw 6 rfl) (own_w hw 14 rfl) (by decide) w_SqlText_Control_ALONE [(.ref w_SqlText_Control_WITH_WORK)] [(.ref w_SqlText_Control_WITH_WORK)] 1 (rm_then_9 l Z a0 hw []  h0 n0 H) (by decide) (by decide) rfl rfl e285 E_w_SqlText_Control_ALONE (by rw [hml]; rfl) (lenOf pd_1 rfl) (Nat.le_of_eq rfl) (hb hby at_118) 121 rfl rfl (by decide) (by decide) fun T287 X287 e287 => ?_
        refine own_acmp X287 hx true (hb hby at_121) rfl rfl (decide_eq_true rfl) 124 (by decide) (by decide) ?_
        refine own_iconst X287 hx (hb hby at_124) (1 : Int32) rfl 125 rfl ?_
        refine own_goto X287 hx (hb hby at_125) 129 (by decide) (by decide) ?_
        refine own_istore X287 hx (hb hby at_129) #[.val (.int x0), .val (.int x1), .val (.int x2), .val (.ref w_SqlText_Control_ALONE), .val (.ref w_SqlText_Control_ALONE), .val (.ref w_SqlText_Control_WITH_WORK), .val (.ref w_SqlText_Control_WITH_WORK), .val (.int (0 : Int32)), .val (.int (1 : Int32)), .val (.int (1 : Int32)), .val (.int (1 : Int32))] rfl 131 rfl ?_
        refine own_iload X287 hx (hb hby at_131) rfl 133 rfl ?_
        refine own_ifN X287 hx (hb hby at_133) ((if0 _ _).trans (feq (by decide : ¬ ((1 : Int32) = (0 : Int32)))).1) 136 rfl ?_
        refine own_iload X287 hx (hb hby at_136) rfl 138 rfl ?_
        refine own_ifN X287 hx (hb hby at_138) ((if0 _ _).trans (feq (by decide : ¬ ((1 : Int32) = (0 : Int32)))).1) 141 rfl ?_
        refine own_iload X287 hx (hb hby at_141) rfl 143 rfl ?_
        refine own_ifN X287 hx (hb hby at_143) ((if0 _ _).trans (feq (by decide : ¬ ((1 : Int32) = (0 : Int32)))).1) 146 rfl ?_
        refine own_iconst X287 hx (hb hby at_146) (1 : Int32) rfl 147 rfl ?_
        refine own_goto X287 hx (hb hby at_147) 151 (by decide) (by decide) ?_
        exact own_retZ X287 hx hk hret (hb hby at_151) rfl ⟨rfl, Fr.nil _⟩ (by decide) (by decide)
    · skip
      rcases own_mod3 x2 with q288 | q288 | q288
      · skip
        refine own_iload_n X0 hx (hb hby at_0) rfl 1 rfl ?_
        refine own_pureS X0 hx hZ hown (own_w hw 0 rfl) (own_w hw 1 rfl) (own_w hw 2 rfl) (own_w hw 3 rfl) (by decide) [(.int x0)] [] 0 (rm_pick_1 l Z a0 hw [] x0 h0 n0 H q1) (by decide) (by decide) rfl rfl e0 (by rw [hml]; rfl) (lenOf pd_0 rfl) (Nat.le_of_eq rfl) (hb hby at_1) 4 rfl rfl (by decide) (by decide) fun T290 X290 e290 => ?_
        refine own_astore_n X290 hx (hb hby at_4) #[.val (.int x0), .val (.int x1), .val (.int x2), .val (.ref w_SqlText_Control_ALONE), .unset, .unset, .unset, .unset, .unset, .unset, .unset] rfl rfl 5 rfl ?_
        refine own_iload_n X290 hx (hb hby at_5) rfl 6 rfl ?_
        refine own_pureS X290 hx hZ hown (own_w hw 0 rfl) (own_w hw 1 rfl) (own_w hw 2 rfl) (own_w hw 3 rfl) (by decide) [(.int x1)] [] 0 (rm_pick_2 l Z a0 hw [] x1 h0 n0 H q177) (by decide) (by decide) rfl rfl e290 (by rw [hml]; rfl) (lenOf pd_0 rfl) (Nat.le_of_eq rfl) (hb hby at_6) 9 rfl rfl (by decide) (by decide) fun T292 X292 e292 => ?_
        refine own_astore X292 hx (hb hby at_9) #[.val (.int x0), .val (.int x1), .val (.int x2), .val (.ref w_SqlText_Control_ALONE), .val (.ref w_SqlText_Control_WITH_WORK), .unset, .unset, .unset, .unset, .unset, .unset] rfl rfl 11 rfl ?_
        refine own_iload_n X292 hx (hb hby at_11) rfl 12 rfl ?_
        refine own_pureS X292 hx hZ hown (own_w hw 0 rfl) (own_w hw 1 rfl) (own_w hw 2 rfl) (own_w hw 3 rfl) (by decide) [(.int x2)] [] 0 (rm_pick_0 l Z a0 hw [] x2 h0 n0 H q288) (by decide) (by decide) rfl rfl e292 (by rw [hml]; rfl) (lenOf pd_0 rfl) (Nat.le_of_eq rfl) (hb hby at_12) 15 rfl rfl (by decide) (by decide) fun T294 X294 e294 => ?_
        refine own_astore X294 hx (hb hby at_15) #[.val (.int x0), .val (.int x1), .val (.int x2), .val (.ref w_SqlText_Control_ALONE), .val (.ref w_SqlText_Control_WITH_WORK), .val (.ref w_SqlText_Control_NONE), .unset, .unset, .unset, .unset, .unset] rfl rfl 17 rfl ?_
        refine own_aload_n X294 hx (hb hby at_17) rfl rfl 18 rfl ?_
        refine own_aload X294 hx (hb hby at_18) rfl rfl 20 rfl ?_
        refine own_pureV X294 hx hZ hown (own_w hw 10 rfl) (own_w hw 11 rfl) (notFace_of_selects (args := #[]) (mvT hZ (own_w hw 13 rfl))) (own_w hw 13 rfl) (own_w hw 12 rfl) (own_w hw 6 rfl) (own_w hw 14 rfl) (by decide) w_SqlText_Control_ALONE [(.ref w_SqlText_Control_WITH_WORK)] [] 0 (rm_then_9 l Z a0 hw []  h0 n0 H) (by decide) (by decide) rfl rfl e294 E_w_SqlText_Control_ALONE (by rw [hml]; rfl) (lenOf pd_1 rfl) (Nat.le_of_eq rfl) (hb hby at_20) 23 rfl rfl (by decide) (by decide) fun T296 X296 e296 => ?_
        refine own_astore X296 hx (hb hby at_23) #[.val (.int x0), .val (.int x1), .val (.int x2), .val (.ref w_SqlText_Control_ALONE), .val (.ref w_SqlText_Control_WITH_WORK), .val (.ref w_SqlText_Control_NONE), .val (.ref w_SqlText_Control_WITH_WORK), .unset, .unset, .unset, .unset] rfl rfl 25 rfl ?_
        refine own_aload_n X296 hx (hb hby at_25) rfl rfl 26 rfl ?_
        refine own_getS X296 hx hZ hown (host := "") (Or.inl (own_w hw 5 rfl)) Via.refl e296 S_w_SqlText_Control_NONE (hb hby at_26) 29 rfl fun T297 X297 e297 => ?_
        refine own_acmp X297 hx false (hb hby at_29) rfl rfl (decide_eq_false fun q => ne_w_SqlText_Control_ALONE_w_SqlText_Control_NONE (Value.ref.inj q)) 44 (by decide) (by decide) ?_
        refine own_iconst X297 hx (hb hby at_44) (0 : Int32) rfl 45 rfl ?_
        refine own_istore X297 hx (hb hby at_45) #[.val (.int x0), .val (.int x1), .val (.int x2), .val (.ref w_SqlText_Control_ALONE), .val (.ref w_SqlText_Control_WITH_WORK), .val (.ref w_SqlText_Control_NONE), .val (.ref w_SqlText_Control_WITH_WORK), .val (.int (0 : Int32)), .unset, .unset, .unset] rfl 47 rfl ?_
        refine own_iload X297 hx (hb hby at_47) rfl 49 rfl ?_
        refine own_ifY X297 hx (hb hby at_49) ((if0 _ _).trans (teq (by decide : (0 : Int32) = (0 : Int32))).1) 70 (by decide) (by decide) ?_
        refine own_aload X297 hx (hb hby at_70) rfl rfl 72 rfl ?_
        refine own_getS X297 hx hZ hown (host := "") (Or.inl (own_w hw 8 rfl)) Via.refl e297 S_w_SqlText_Control_WITH_WORK (hb hby at_72) 75 rfl fun T298 X298 e298 => ?_
        refine own_acmp X298 hx true (hb hby at_75) rfl rfl (decide_eq_true rfl) 78 (by decide) (by decide) ?_
        refine own_iconst X298 hx (hb hby at_78) (1 : Int32) rfl 79 rfl ?_
        refine own_goto X298 hx (hb hby at_79) 83 (by decide) (by decide) ?_
        refine own_istore X298 hx (hb hby at_83) #[.val (.int x0), .val (.int x1), .val (.int x2), .val (.ref w_SqlText_Control_ALONE), .val (.ref w_SqlText_Control_WITH_WORK), .val (.ref w_SqlText_Control_NONE), .val (.ref w_SqlText_Control_WITH_WORK), .val (.int (0 : Int32)), .val (.int (1 : Int32)), .unset, .unset] rfl 85 rfl ?_
        refine own_aload X298 hx (hb hby at_85) rfl rfl 87 rfl ?_
        refine own_aload X298 hx (hb hby at_87) rfl rfl 89 rfl ?_
        refine own_aload_n X298 hx (hb hby at_89) rfl rfl 90 rfl ?_
        refine own_pureV X298 hx hZ hown (own_w hw 10 rfl) (own_w hw 11 rfl) (notFace_of_selects (args := #[]) (mvT hZ (own_w hw 13 rfl))) (own_w hw 13 rfl) (own_w hw 12 rfl) (own_w hw 6 rfl) (own_w hw 14 rfl) (by decide) w_SqlText_Control_WITH_WORK [(.ref w_SqlText_Control_ALONE)] [(.ref w_SqlText_Control_WITH_WORK)] 1 (rm_then_6 l Z a0 hw []  h0 n0 H) (by decide) (by decide) rfl rfl e298 E_w_SqlText_Control_WITH_WORK (by rw [hml]; rfl) (lenOf pd_1 rfl) (Nat.le_of_eq rfl) (hb hby at_90) 93 rfl rfl (by decide) (by decide) fun T300 X300 e300 => ?_
        refine own_acmp X300 hx true (hb hby at_93) rfl rfl (decide_eq_true rfl) 96 (by decide) (by decide) ?_
        refine own_iconst X300 hx (hb hby at_96) (1 : Int32) rfl 97 rfl ?_
        refine own_goto X300 hx (hb hby at_97) 101 (by decide) (by decide) ?_
        refine own_istore X300 hx (hb hby at_101) #[.val (.int x0), .val (.int x1), .val (.int x2), .val (.ref w_SqlText_Control_ALONE), .val (.ref w_SqlText_Control_WITH_WORK), .val (.ref w_SqlText_Control_NONE), .val (.ref w_SqlText_Control_WITH_WORK), .val (.int (0 : Int32)), .val (.int (1 : Int32)), .val (.int (1 : Int32)), .unset] rfl 103 rfl ?_
        refine own_aload X300 hx (hb hby at_103) rfl rfl 105 rfl ?_
        refine own_aload X300 hx (hb hby at_105) rfl rfl 107 rfl ?_
        refine own_pureV X300 hx hZ hown (own_w hw 10 rfl) (own_w hw 11 rfl) (notFace_of_selects (args := #[]) (mvT hZ (own_w hw 13 rfl))) (own_w hw 13 rfl) (own_w hw 12 rfl) (own_w hw 6 rfl) (own_w hw 14 rfl) (by decide) w_SqlText_Control_WITH_WORK [(.ref w_SqlText_Control_NONE)] [] 0 (rm_then_5 l Z a0 hw []  h0 n0 H) (by decide) (by decide) rfl rfl e300 E_w_SqlText_Control_WITH_WORK (by rw [hml]; rfl) (lenOf pd_1 rfl) (Nat.le_of_eq rfl) (hb hby at_107) 110 rfl rfl (by decide) (by decide) fun T302 X302 e302 => ?_
        refine own_aload_n X302 hx (hb hby at_110) rfl rfl 111 rfl ?_
        refine own_aload X302 hx (hb hby at_111) rfl rfl 113 rfl ?_
        refine own_aload X302 hx (hb hby at_113) rfl rfl 115 rfl ?_
        refine own_pureV X302 hx hZ hown (own_w hw 10 rfl) (own_w hw 11 rfl) (notFace_of_selects (args := #[]) (mvT hZ (own_w hw 13 rfl))) (own_w hw 13 rfl) (own_w hw 12 rfl) (own_w hw 6 rfl) (own_w hw 14 rfl) (by decide) w_SqlText_Control_WITH_WORK [(.ref w_SqlText_Control_NONE)] [(.ref w_SqlText_Control_ALONE), (.ref w_SqlText_Control_WITH_WORK)] 2 (rm_then_5 l Z a0 hw []  h0 n0 H) (by decide) (by decide) rfl rfl e302 E_w_SqlText_Control_WITH_WORK (by rw [hml]; rfl) (lenOf pd_1 rfl) (Nat.le_of_eq rfl) (hb hby at_115) 118 rfl rfl (by decide) (by decide) fun T304 X304 e304 => ?_
        refine own_pureV X304 hx hZ hown (own_w hw 10 rfl) (own_w hw 11 rfl) (notFace_of_selects (args := #[]) (mvT hZ (own_w hw 13 rfl))) (own_w hw 13 rfl) (own_w hw 12 rfl) (own_w hw 6 rfl) (own_w hw 14 rfl) (by decide) w_SqlText_Control_ALONE [(.ref w_SqlText_Control_WITH_WORK)] [(.ref w_SqlText_Control_WITH_WORK)] 1 (rm_then_9 l Z a0 hw []  h0 n0 H) (by decide) (by decide) rfl rfl e304 E_w_SqlText_Control_ALONE (by rw [hml]; rfl) (lenOf pd_1 rfl) (Nat.le_of_eq rfl) (hb hby at_118) 121 rfl rfl (by decide) (by decide) fun T306 X306 e306 => ?_
        refine own_acmp X306 hx true (hb hby at_121) rfl rfl (decide_eq_true rfl) 124 (by decide) (by decide) ?_
        refine own_iconst X306 hx (hb hby at_124) (1 : Int32) rfl 125 rfl ?_
        refine own_goto X306 hx (hb hby at_125) 129 (by decide) (by decide) ?_
        refine own_istore X306 hx (hb hby at_129) #[.val (.int x0), .val (.int x1), .val (.int x2), .val (.ref w_SqlText_Control_ALONE), .val (.ref w_SqlText_Control_WITH_WORK), .val (.ref w_SqlText_Control_NONE), .val (.ref w_SqlText_Control_WITH_WORK), .val (.int (0 : Int32)), .val (.int (1 : Int32)), .val (.int (1 : Int32)), .val (.int (1 : Int32))] rfl 131 rfl ?_
        refine own_iload X306 hx (hb hby at_131) rfl 133 rfl ?_
        refine own_ifN X306 hx (hb hby at_133) ((if0 _ _).trans (feq (by decide : ¬ ((1 : Int32) = (0 : Int32)))).1) 136 rfl ?_
        refine own_iload X306 hx (hb hby at_136) rfl 138 rfl ?_
        refine own_ifN X306 hx (hb hby at_138) ((if0 _ _).trans (feq (by decide : ¬ ((1 : Int32) = (0 : Int32)))).1) 141 rfl ?_
        refine own_iload X306 hx (hb hby at_141) rfl 143 rfl ?_
        refine own_ifN X306 hx (hb hby at_143) ((if0 _ _).trans (feq (by decide : ¬ ((1 : Int32) = (0 : Int32)))).1) 146 rfl ?_
        refine own_iconst X306 hx (hb hby at_146) (1 : Int32) rfl 147 rfl ?_
        refine own_goto X306 hx (hb hby at_147) 151 (by decide) (by decide) ?_
        exact own_retZ X306 hx hk hret (hb hby at_151) rfl ⟨rfl, Fr.nil _⟩ (by decide) (by decide)
      · skip
        refine own_iload_n X0 hx (hb hby at_0) rfl 1 rfl ?_
        refine own_pureS X0 hx hZ hown (own_w hw 0 rfl) (own_w hw 1 rfl) (own_w hw 2 rfl) (own_w hw 3 rfl) (by decide) [(.int x0)] [] 0 (rm_pick_1 l Z a0 hw [] x0 h0 n0 H q1) (by decide) (by decide) rfl rfl e0 (by rw [hml]; rfl) (lenOf pd_0 rfl) (Nat.le_of_eq rfl) (hb hby at_1) 4 rfl rfl (by decide) (by decide) fun T308 X308 e308 => ?_
        refine own_astore_n X308 hx (hb hby at_4) #[.val (.int x0), .val (.int x1), .val (.int x2), .val (.ref w_SqlText_Control_ALONE), .unset, .unset, .unset, .unset, .unset, .unset, .unset] rfl rfl 5 rfl ?_
        refine own_iload_n X308 hx (hb hby at_5) rfl 6 rfl ?_
        refine own_pureS X308 hx hZ hown (own_w hw 0 rfl) (own_w hw 1 rfl) (own_w hw 2 rfl) (own_w hw 3 rfl) (by decide) [(.int x1)] [] 0 (rm_pick_2 l Z a0 hw [] x1 h0 n0 H q177) (by decide) (by decide) rfl rfl e308 (by rw [hml]; rfl) (lenOf pd_0 rfl) (Nat.le_of_eq rfl) (hb hby at_6) 9 rfl rfl (by decide) (by decide) fun T310 X310 e310 => ?_
        refine own_astore X310 hx (hb hby at_9) #[.val (.int x0), .val (.int x1), .val (.int x2), .val (.ref w_SqlText_Control_ALONE), .val (.ref w_SqlText_Control_WITH_WORK), .unset, .unset, .unset, .unset, .unset, .unset] rfl rfl 11 rfl ?_
        refine own_iload_n X310 hx (hb hby at_11) rfl 12 rfl ?_
        refine own_pureS X310 hx hZ hown (own_w hw 0 rfl) (own_w hw 1 rfl) (own_w hw 2 rfl) (own_w hw 3 rfl) (by decide) [(.int x2)] [] 0 (rm_pick_1 l Z a0 hw [] x2 h0 n0 H q288) (by decide) (by decide) rfl rfl e310 (by rw [hml]; rfl) (lenOf pd_0 rfl) (Nat.le_of_eq rfl) (hb hby at_12) 15 rfl rfl (by decide) (by decide) fun T312 X312 e312 => ?_
        refine own_astore X312 hx (hb hby at_15) #[.val (.int x0), .val (.int x1), .val (.int x2), .val (.ref w_SqlText_Control_ALONE), .val (.ref w_SqlText_Control_WITH_WORK), .val (.ref w_SqlText_Control_ALONE), .unset, .unset, .unset, .unset, .unset] rfl rfl 17 rfl ?_
        refine own_aload_n X312 hx (hb hby at_17) rfl rfl 18 rfl ?_
        refine own_aload X312 hx (hb hby at_18) rfl rfl 20 rfl ?_
        refine own_pureV X312 hx hZ hown (own_w hw 10 rfl) (own_w hw 11 rfl) (notFace_of_selects (args := #[]) (mvT hZ (own_w hw 13 rfl))) (own_w hw 13 rfl) (own_w hw 12 rfl) (own_w hw 6 rfl) (own_w hw 14 rfl) (by decide) w_SqlText_Control_ALONE [(.ref w_SqlText_Control_WITH_WORK)] [] 0 (rm_then_9 l Z a0 hw []  h0 n0 H) (by decide) (by decide) rfl rfl e312 E_w_SqlText_Control_ALONE (by rw [hml]; rfl) (lenOf pd_1 rfl) (Nat.le_of_eq rfl) (hb hby at_20) 23 rfl rfl (by decide) (by decide) fun T314 X314 e314 => ?_
        refine own_astore X314 hx (hb hby at_23) #[.val (.int x0), .val (.int x1), .val (.int x2), .val (.ref w_SqlText_Control_ALONE), .val (.ref w_SqlText_Control_WITH_WORK), .val (.ref w_SqlText_Control_ALONE), .val (.ref w_SqlText_Control_WITH_WORK), .unset, .unset, .unset, .unset] rfl rfl 25 rfl ?_
        refine own_aload_n X314 hx (hb hby at_25) rfl rfl 26 rfl ?_
        refine own_getS X314 hx hZ hown (host := "") (Or.inl (own_w hw 5 rfl)) Via.refl e314 S_w_SqlText_Control_NONE (hb hby at_26) 29 rfl fun T315 X315 e315 => ?_
        refine own_acmp X315 hx false (hb hby at_29) rfl rfl (decide_eq_false fun q => ne_w_SqlText_Control_ALONE_w_SqlText_Control_NONE (Value.ref.inj q)) 44 (by decide) (by decide) ?_
        refine own_iconst X315 hx (hb hby at_44) (0 : Int32) rfl 45 rfl ?_
        refine own_istore X315 hx (hb hby at_45) #[.val (.int x0), .val (.int x1), .val (.int x2), .val (.ref w_SqlText_Control_ALONE), .val (.ref w_SqlText_Control_WITH_WORK), .val (.ref w_SqlText_Control_ALONE), .val (.ref w_SqlText_Control_WITH_WORK), .val (.int (0 : Int32)), .unset, .unset, .unset] rfl 47 rfl ?_
        refine own_iload X315 hx (hb hby at_47) rfl 49 rfl ?_
        refine own_ifY X315 hx (hb hby at_49) ((if0 _ _).trans (teq (by decide : (0 : Int32) = (0 : Int32))).1) 70 (by decide) (by decide) ?_
        refine own_aload X315 hx (hb hby at_70) rfl rfl 72 rfl ?_
        refine own_getS X315 hx hZ hown (host := "") (Or.inl (own_w hw 8 rfl)) Via.refl e315 S_w_SqlText_Control_WITH_WORK (hb hby at_72) 75 rfl fun T316 X316 e316 => ?_
        refine own_acmp X316 hx true (hb hby at_75) rfl rfl (decide_eq_true rfl) 78 (by decide) (by decide) ?_
        refine own_iconst X316 hx (hb hby at_78) (1 : Int32) rfl 79 rfl ?_
        refine own_goto X316 hx (hb hby at_79) 83 (by decide) (by decide) ?_
        refine own_istore X316 hx (hb hby at_83) #[.val (.int x0), .val (.int x1), .val (.int x2), .val (.ref w_SqlText_Control_ALONE), .val (.ref w_SqlText_Control_WITH_WORK), .val (.ref w_SqlText_Control_ALONE), .val (.ref w_SqlText_Control_WITH_WORK), .val (.int (0 : Int32)), .val (.int (1 : Int32)), .unset, .unset] rfl 85 rfl ?_
        refine own_aload X316 hx (hb hby at_85) rfl rfl 87 rfl ?_
        refine own_aload X316 hx (hb hby at_87) rfl rfl 89 rfl ?_
        refine own_aload_n X316 hx (hb hby at_89) rfl rfl 90 rfl ?_
        refine own_pureV X316 hx hZ hown (own_w hw 10 rfl) (own_w hw 11 rfl) (notFace_of_selects (args := #[]) (mvT hZ (own_w hw 13 rfl))) (own_w hw 13 rfl) (own_w hw 12 rfl) (own_w hw 6 rfl) (own_w hw 14 rfl) (by decide) w_SqlText_Control_WITH_WORK [(.ref w_SqlText_Control_ALONE)] [(.ref w_SqlText_Control_WITH_WORK)] 1 (rm_then_6 l Z a0 hw []  h0 n0 H) (by decide) (by decide) rfl rfl e316 E_w_SqlText_Control_WITH_WORK (by rw [hml]; rfl) (lenOf pd_1 rfl) (Nat.le_of_eq rfl) (hb hby at_90) 93 rfl rfl (by decide) (by decide) fun T318 X318 e318 => ?_
        refine own_acmp X318 hx true (hb hby at_93) rfl rfl (decide_eq_true rfl) 96 (by decide) (by decide) ?_
        refine own_iconst X318 hx (hb hby at_96) (1 : Int32) rfl 97 rfl ?_
        refine own_goto X318 hx (hb hby at_97) 101 (by decide) (by decide) ?_
        refine own_istore X318 hx (hb hby at_101) #[.val (.int x0), .val (.int x1), .val (.int x2), .val (.ref w_SqlText_Control_ALONE), .val (.ref w_SqlText_Control_WITH_WORK), .val (.ref w_SqlText_Control_ALONE), .val (.ref w_SqlText_Control_WITH_WORK), .val (.int (0 : Int32)), .val (.int (1 : Int32)), .val (.int (1 : Int32)), .unset] rfl 103 rfl ?_
        refine own_aload X318 hx (hb hby at_103) rfl rfl 105 rfl ?_
        refine own_aload X318 hx (hb hby at_105) rfl rfl 107 rfl ?_
        refine own_pureV X318 hx hZ hown (own_w hw 10 rfl) (own_w hw 11 rfl) (notFace_of_selects (args := #[]) (mvT hZ (own_w hw 13 rfl))) (own_w hw 13 rfl) (own_w hw 12 rfl) (own_w hw 6 rfl) (own_w hw 14 rfl) (by decide) w_SqlText_Control_WITH_WORK [(.ref w_SqlText_Control_ALONE)] [] 0 (rm_then_6 l Z a0 hw []  h0 n0 H) (by decide) (by decide) rfl rfl e318 E_w_SqlText_Control_WITH_WORK (by rw [hml]; rfl) (lenOf pd_1 rfl) (Nat.le_of_eq rfl) (hb hby at_107) 110 rfl rfl (by decide) (by decide) fun T320 X320 e320 => ?_
        refine own_aload_n X320 hx (hb hby at_110) rfl rfl 111 rfl ?_
        refine own_aload X320 hx (hb hby at_111) rfl rfl 113 rfl ?_
        refine own_aload X320 hx (hb hby at_113) rfl rfl 115 rfl ?_
        refine own_pureV X320 hx hZ hown (own_w hw 10 rfl) (own_w hw 11 rfl) (notFace_of_selects (args := #[]) (mvT hZ (own_w hw 13 rfl))) (own_w hw 13 rfl) (own_w hw 12 rfl) (own_w hw 6 rfl) (own_w hw 14 rfl) (by decide) w_SqlText_Control_WITH_WORK [(.ref w_SqlText_Control_ALONE)] [(.ref w_SqlText_Control_ALONE), (.ref w_SqlText_Control_WITH_WORK)] 2 (rm_then_6 l Z a0 hw []  h0 n0 H) (by decide) (by decide) rfl rfl e320 E_w_SqlText_Control_WITH_WORK (by rw [hml]; rfl) (lenOf pd_1 rfl) (Nat.le_of_eq rfl) (hb hby at_115) 118 rfl rfl (by decide) (by decide) fun T322 X322 e322 => ?_
        refine own_pureV X322 hx hZ hown (own_w hw 10 rfl) (own_w hw 11 rfl) (notFace_of_selects (args := #[]) (mvT hZ (own_w hw 13 rfl))) (own_w hw 13 rfl) (own_w hw 12 rfl) (own_w hw 6 rfl) (own_w hw 14 rfl) (by decide) w_SqlText_Control_ALONE [(.ref w_SqlText_Control_WITH_WORK)] [(.ref w_SqlText_Control_WITH_WORK)] 1 (rm_then_9 l Z a0 hw []  h0 n0 H) (by decide) (by decide) rfl rfl e322 E_w_SqlText_Control_ALONE (by rw [hml]; rfl) (lenOf pd_1 rfl) (Nat.le_of_eq rfl) (hb hby at_118) 121 rfl rfl (by decide) (by decide) fun T324 X324 e324 => ?_
        refine own_acmp X324 hx true (hb hby at_121) rfl rfl (decide_eq_true rfl) 124 (by decide) (by decide) ?_
        refine own_iconst X324 hx (hb hby at_124) (1 : Int32) rfl 125 rfl ?_
        refine own_goto X324 hx (hb hby at_125) 129 (by decide) (by decide) ?_
        refine own_istore X324 hx (hb hby at_129) #[.val (.int x0), .val (.int x1), .val (.int x2), .val (.ref w_SqlText_Control_ALONE), .val (.ref w_SqlText_Control_WITH_WORK), .val (.ref w_SqlText_Control_ALONE), .val (.ref w_SqlText_Control_WITH_WORK), .val (.int (0 : Int32)), .val (.int (1 : Int32)), .val (.int (1 : Int32)), .val (.int (1 : Int32))] rfl 131 rfl ?_
        refine own_iload X324 hx (hb hby at_131) rfl 133 rfl ?_
        refine own_ifN X324 hx (hb hby at_133) ((if0 _ _).trans (feq (by decide : ¬ ((1 : Int32) = (0 : Int32)))).1) 136 rfl ?_
        refine own_iload X324 hx (hb hby at_136) rfl 138 rfl ?_
        refine own_ifN X324 hx (hb hby at_138) ((if0 _ _).trans (feq (by decide : ¬ ((1 : Int32) = (0 : Int32)))).1) 141 rfl ?_
        refine own_iload X324 hx (hb hby at_141) rfl 143 rfl ?_
        refine own_ifN X324 hx (hb hby at_143) ((if0 _ _).trans (feq (by decide : ¬ ((1 : Int32) = (0 : Int32)))).1) 146 rfl ?_
        refine own_iconst X324 hx (hb hby at_146) (1 : Int32) rfl 147 rfl ?_
        refine own_goto X324 hx (hb hby at_147) 151 (by decide) (by decide) ?_
        exact own_retZ X324 hx hk hret (hb hby at_151) rfl ⟨rfl, Fr.nil _⟩ (by decide) (by decide)
      · skip
        refine own_iload_n X0 hx (hb hby at_0) rfl 1 rfl ?_
        refine own_pureS X0 hx hZ hown (own_w hw 0 rfl) (own_w hw 1 rfl) (own_w hw 2 rfl) (own_w hw 3 rfl) (by decide) [(.int x0)] [] 0 (rm_pick_1 l Z a0 hw [] x0 h0 n0 H q1) (by decide) (by decide) rfl rfl e0 (by rw [hml]; rfl) (lenOf pd_0 rfl) (Nat.le_of_eq rfl) (hb hby at_1) 4 rfl rfl (by decide) (by decide) fun T326 X326 e326 => ?_
        refine own_astore_n X326 hx (hb hby at_4) #[.val (.int x0), .val (.int x1), .val (.int x2), .val (.ref w_SqlText_Control_ALONE), .unset, .unset, .unset, .unset, .unset, .unset, .unset] rfl rfl 5 rfl ?_
        refine own_iload_n X326 hx (hb hby at_5) rfl 6 rfl ?_
        refine own_pureS X326 hx hZ hown (own_w hw 0 rfl) (own_w hw 1 rfl) (own_w hw 2 rfl) (own_w hw 3 rfl) (by decide) [(.int x1)] [] 0 (rm_pick_2 l Z a0 hw [] x1 h0 n0 H q177) (by decide) (by decide) rfl rfl e326 (by rw [hml]; rfl) (lenOf pd_0 rfl) (Nat.le_of_eq rfl) (hb hby at_6) 9 rfl rfl (by decide) (by decide) fun T328 X328 e328 => ?_
        refine own_astore X328 hx (hb hby at_9) #[.val (.int x0), .val (.int x1), .val (.int x2), .val (.ref w_SqlText_Control_ALONE), .val (.ref w_SqlText_Control_WITH_WORK), .unset, .unset, .unset, .unset, .unset, .unset] rfl rfl 11 rfl ?_
        refine own_iload_n X328 hx (hb hby at_11) rfl 12 rfl ?_
        refine own_pureS X328 hx hZ hown (own_w hw 0 rfl) (own_w hw 1 rfl) (own_w hw 2 rfl) (own_w hw 3 rfl) (by decide) [(.int x2)] [] 0 (rm_pick_2 l Z a0 hw [] x2 h0 n0 H q288) (by decide) (by decide) rfl rfl e328 (by rw [hml]; rfl) (lenOf pd_0 rfl) (Nat.le_of_eq rfl) (hb hby at_12) 15 rfl rfl (by decide) (by decide) fun T330 X330 e330 => ?_
        refine own_astore X330 hx (hb hby at_15) #[.val (.int x0), .val (.int x1), .val (.int x2), .val (.ref w_SqlText_Control_ALONE), .val (.ref w_SqlText_Control_WITH_WORK), .val (.ref w_SqlText_Control_WITH_WORK), .unset, .unset, .unset, .unset, .unset] rfl rfl 17 rfl ?_
        refine own_aload_n X330 hx (hb hby at_17) rfl rfl 18 rfl ?_
        refine own_aload X330 hx (hb hby at_18) rfl rfl 20 rfl ?_
        refine own_pureV X330 hx hZ hown (own_w hw 10 rfl) (own_w hw 11 rfl) (notFace_of_selects (args := #[]) (mvT hZ (own_w hw 13 rfl))) (own_w hw 13 rfl) (own_w hw 12 rfl) (own_w hw 6 rfl) (own_w hw 14 rfl) (by decide) w_SqlText_Control_ALONE [(.ref w_SqlText_Control_WITH_WORK)] [] 0 (rm_then_9 l Z a0 hw []  h0 n0 H) (by decide) (by decide) rfl rfl e330 E_w_SqlText_Control_ALONE (by rw [hml]; rfl) (lenOf pd_1 rfl) (Nat.le_of_eq rfl) (hb hby at_20) 23 rfl rfl (by decide) (by decide) fun T332 X332 e332 => ?_
        refine own_astore X332 hx (hb hby at_23) #[.val (.int x0), .val (.int x1), .val (.int x2), .val (.ref w_SqlText_Control_ALONE), .val (.ref w_SqlText_Control_WITH_WORK), .val (.ref w_SqlText_Control_WITH_WORK), .val (.ref w_SqlText_Control_WITH_WORK), .unset, .unset, .unset, .unset] rfl rfl 25 rfl ?_
        refine own_aload_n X332 hx (hb hby at_25) rfl rfl 26 rfl ?_
        refine own_getS X332 hx hZ hown (host := "") (Or.inl (own_w hw 5 rfl)) Via.refl e332 S_w_SqlText_Control_NONE (hb hby at_26) 29 rfl fun T333 X333 e333 => ?_
        refine own_acmp X333 hx false (hb hby at_29) rfl rfl (decide_eq_false fun q => ne_w_SqlText_Control_ALONE_w_SqlText_Control_NONE (Value.ref.inj q)) 44 (by decide) (by decide) ?_
        refine own_iconst X333 hx (hb hby at_44) (0 : Int32) rfl 45 rfl ?_
        refine own_istore X333 hx (hb hby at_45) #[.val (.int x0), .val (.int x1), .val (.int x2), .val (.ref w_SqlText_Control_ALONE), .val (.ref w_SqlText_Control_WITH_WORK), .val (.ref w_SqlText_Control_WITH_WORK), .val (.ref w_SqlText_Control_WITH_WORK), .val (.int (0 : Int32)), .unset, .unset, .unset] rfl 47 rfl ?_
        refine own_iload X333 hx (hb hby at_47) rfl 49 rfl ?_
        refine own_ifY X333 hx (hb hby at_49) ((if0 _ _).trans (teq (by decide : (0 : Int32) = (0 : Int32))).1) 70 (by decide) (by decide) ?_
        refine own_aload X333 hx (hb hby at_70) rfl rfl 72 rfl ?_
        refine own_getS X333 hx hZ hown (host := "") (Or.inl (own_w hw 8 rfl)) Via.refl e333 S_w_SqlText_Control_WITH_WORK (hb hby at_72) 75 rfl fun T334 X334 e334 => ?_
        refine own_acmp X334 hx true (hb hby at_75) rfl rfl (decide_eq_true rfl) 78 (by decide) (by decide) ?_
        refine own_iconst X334 hx (hb hby at_78) (1 : Int32) rfl 79 rfl ?_
        refine own_goto X334 hx (hb hby at_79) 83 (by decide) (by decide) ?_
        refine own_istore X334 hx (hb hby at_83) #[.val (.int x0), .val (.int x1), .val (.int x2), .val (.ref w_SqlText_Control_ALONE), .val (.ref w_SqlText_Control_WITH_WORK), .val (.ref w_SqlText_Control_WITH_WORK), .val (.ref w_SqlText_Control_WITH_WORK), .val (.int (0 : Int32)), .val (.int (1 : Int32)), .unset, .unset] rfl 85 rfl ?_
        refine own_aload X334 hx (hb hby at_85) rfl rfl 87 rfl ?_
        refine own_aload X334 hx (hb hby at_87) rfl rfl 89 rfl ?_
        refine own_aload_n X334 hx (hb hby at_89) rfl rfl 90 rfl ?_
        refine own_pureV X334 hx hZ hown (own_w hw 10 rfl) (own_w hw 11 rfl) (notFace_of_selects (args := #[]) (mvT hZ (own_w hw 13 rfl))) (own_w hw 13 rfl) (own_w hw 12 rfl) (own_w hw 6 rfl) (own_w hw 14 rfl) (by decide) w_SqlText_Control_WITH_WORK [(.ref w_SqlText_Control_ALONE)] [(.ref w_SqlText_Control_WITH_WORK)] 1 (rm_then_6 l Z a0 hw []  h0 n0 H) (by decide) (by decide) rfl rfl e334 E_w_SqlText_Control_WITH_WORK (by rw [hml]; rfl) (lenOf pd_1 rfl) (Nat.le_of_eq rfl) (hb hby at_90) 93 rfl rfl (by decide) (by decide) fun T336 X336 e336 => ?_
        refine own_acmp X336 hx true (hb hby at_93) rfl rfl (decide_eq_true rfl) 96 (by decide) (by decide) ?_
        refine own_iconst X336 hx (hb hby at_96) (1 : Int32) rfl 97 rfl ?_
        refine own_goto X336 hx (hb hby at_97) 101 (by decide) (by decide) ?_
        refine own_istore X336 hx (hb hby at_101) #[.val (.int x0), .val (.int x1), .val (.int x2), .val (.ref w_SqlText_Control_ALONE), .val (.ref w_SqlText_Control_WITH_WORK), .val (.ref w_SqlText_Control_WITH_WORK), .val (.ref w_SqlText_Control_WITH_WORK), .val (.int (0 : Int32)), .val (.int (1 : Int32)), .val (.int (1 : Int32)), .unset] rfl 103 rfl ?_
        refine own_aload X336 hx (hb hby at_103) rfl rfl 105 rfl ?_
        refine own_aload X336 hx (hb hby at_105) rfl rfl 107 rfl ?_
        refine own_pureV X336 hx hZ hown (own_w hw 10 rfl) (own_w hw 11 rfl) (notFace_of_selects (args := #[]) (mvT hZ (own_w hw 13 rfl))) (own_w hw 13 rfl) (own_w hw 12 rfl) (own_w hw 6 rfl) (own_w hw 14 rfl) (by decide) w_SqlText_Control_WITH_WORK [(.ref w_SqlText_Control_WITH_WORK)] [] 0 (rm_then_8 l Z a0 hw []  h0 n0 H) (by decide) (by decide) rfl rfl e336 E_w_SqlText_Control_WITH_WORK (by rw [hml]; rfl) (lenOf pd_1 rfl) (Nat.le_of_eq rfl) (hb hby at_107) 110 rfl rfl (by decide) (by decide) fun T338 X338 e338 => ?_
        refine own_aload_n X338 hx (hb hby at_110) rfl rfl 111 rfl ?_
        refine own_aload X338 hx (hb hby at_111) rfl rfl 113 rfl ?_
        refine own_aload X338 hx (hb hby at_113) rfl rfl 115 rfl ?_
        refine own_pureV X338 hx hZ hown (own_w hw 10 rfl) (own_w hw 11 rfl) (notFace_of_selects (args := #[]) (mvT hZ (own_w hw 13 rfl))) (own_w hw 13 rfl) (own_w hw 12 rfl) (own_w hw 6 rfl) (own_w hw 14 rfl) (by decide) w_SqlText_Control_WITH_WORK [(.ref w_SqlText_Control_WITH_WORK)] [(.ref w_SqlText_Control_ALONE), (.ref w_SqlText_Control_WITH_WORK)] 2 (rm_then_8 l Z a0 hw []  h0 n0 H) (by decide) (by decide) rfl rfl e338 E_w_SqlText_Control_WITH_WORK (by rw [hml]; rfl) (lenOf pd_1 rfl) (Nat.le_of_eq rfl) (hb hby at_115) 118 rfl rfl (by decide) (by decide) fun T340 X340 e340 => ?_
        refine own_pureV X340 hx hZ hown (own_w hw 10 rfl) (own_w hw 11 rfl) (notFace_of_selects (args := #[]) (mvT hZ (own_w hw 13 rfl))) (own_w hw 13 rfl) (own_w hw 12 rfl) (own_w hw 6 rfl) (own_w hw 14 rfl) (by decide) w_SqlText_Control_ALONE [(.ref w_SqlText_Control_WITH_WORK)] [(.ref w_SqlText_Control_WITH_WORK)] 1 (rm_then_9 l Z a0 hw []  h0 n0 H) (by decide) (by decide) rfl rfl e340 E_w_SqlText_Control_ALONE (by rw [hml]; rfl) (lenOf pd_1 rfl) (Nat.le_of_eq rfl) (hb hby at_118) 121 rfl rfl (by decide) (by decide) fun T342 X342 e342 => ?_
        refine own_acmp X342 hx true (hb hby at_121) rfl rfl (decide_eq_true rfl) 124 (by decide) (by decide) ?_
        refine own_iconst X342 hx (hb hby at_124) (1 : Int32) rfl 125 rfl ?_
        refine own_goto X342 hx (hb hby at_125) 129 (by decide) (by decide) ?_
        refine own_istore X342 hx (hb hby at_129) #[.val (.int x0), .val (.int x1), .val (.int x2), .val (.ref w_SqlText_Control_ALONE), .val (.ref w_SqlText_Control_WITH_WORK), .val (.ref w_SqlText_Control_WITH_WORK), .val (.ref w_SqlText_Control_WITH_WORK), .val (.int (0 : Int32)), .val (.int (1 : Int32)), .val (.int (1 : Int32)), .val (.int (1 : Int32))] rfl 131 rfl ?_
        refine own_iload X342 hx (hb hby at_131) rfl 133 rfl ?_
        refine own_ifN X342 hx (hb hby at_133) ((if0 _ _).trans (feq (by decide : ¬ ((1 : Int32) = (0 : Int32)))).1) 136 rfl ?_
        refine own_iload X342 hx (hb hby at_136) rfl 138 rfl ?_
        refine own_ifN X342 hx (hb hby at_138) ((if0 _ _).trans (feq (by decide : ¬ ((1 : Int32) = (0 : Int32)))).1) 141 rfl ?_
        refine own_iload X342 hx (hb hby at_141) rfl 143 rfl ?_
        refine own_ifN X342 hx (hb hby at_143) ((if0 _ _).trans (feq (by decide : ¬ ((1 : Int32) = (0 : Int32)))).1) 146 rfl ?_
        refine own_iconst X342 hx (hb hby at_146) (1 : Int32) rfl 147 rfl ?_
        refine own_goto X342 hx (hb hby at_147) 151 (by decide) (by decide) ?_
        exact own_retZ X342 hx hk hret (hb hby at_151) rfl ⟨rfl, Fr.nil _⟩ (by decide) (by decide)
  · skip
    rcases own_mod3 x1 with q343 | q343 | q343
    · skip
      rcases own_mod3 x2 with q344 | q344 | q344
      · skip
        refine own_iload_n X0 hx (hb hby at_0) rfl 1 rfl ?_
        refine own_pureS X0 hx hZ hown (own_w hw 0 rfl) (own_w hw 1 rfl) (own_w hw 2 rfl) (own_w hw 3 rfl) (by decide) [(.int x0)] [] 0 (rm_pick_2 l Z a0 hw [] x0 h0 n0 H q1) (by decide) (by decide) rfl rfl e0 (by rw [hml]; rfl) (lenOf pd_0 rfl) (Nat.le_of_eq rfl) (hb hby at_1) 4 rfl rfl (by decide) (by decide) fun T346 X346 e346 => ?_
        refine own_astore_n X346 hx (hb hby at_4) #[.val (.int x0), .val (.int x1), .val (.int x2), .val (.ref w_SqlText_Control_WITH_WORK), .unset, .unset, .unset, .unset, .unset, .unset, .unset] rfl rfl 5 rfl ?_
        refine own_iload_n X346 hx (hb hby at_5) rfl 6 rfl ?_
        refine own_pureS X346 hx hZ hown (own_w hw 0 rfl) (own_w hw 1 rfl) (own_w hw 2 rfl) (own_w hw 3 rfl) (by decide) [(.int x1)] [] 0 (rm_pick_0 l Z a0 hw [] x1 h0 n0 H q343) (by decide) (by decide) rfl rfl e346 (by rw [hml]; rfl) (lenOf pd_0 rfl) (Nat.le_of_eq rfl) (hb hby at_6) 9 rfl rfl (by decide) (by decide) fun T348 X348 e348 => ?_
        refine own_astore X348 hx (hb hby at_9) #[.val (.int x0), .val (.int x1), .val (.int x2), .val (.ref w_SqlText_Control_WITH_WORK), .val (.ref w_SqlText_Control_NONE), .unset, .unset, .unset, .unset, .unset, .unset] rfl rfl 11 rfl ?_
        refine own_iload_n X348 hx (hb hby at_11) rfl 12 rfl ?_
        refine own_pureS X348 hx hZ hown (own_w hw 0 rfl) (own_w hw 1 rfl) (own_w hw 2 rfl) (own_w hw 3 rfl) (by decide) [(.int x2)] [] 0 (rm_pick_0 l Z a0 hw [] x2 h0 n0 H q344) (by decide) (by decide) rfl rfl e348 (by rw [hml]; rfl) (lenOf pd_0 rfl) (Nat.le_of_eq rfl) (hb hby at_12) 15 rfl rfl (by decide) (by decide) fun T350 X350 e350 => ?_
        refine own_astore X350 hx (hb hby at_15) #[.val (.int x0), .val (.int x1), .val (.int x2), .val (.ref w_SqlText_Control_WITH_WORK), .val (.ref w_SqlText_Control_NONE), .val (.ref w_SqlText_Control_NONE), .unset, .unset, .unset, .unset, .unset] rfl rfl 17 rfl ?_
        refine own_aload_n X350 hx (hb hby at_17) rfl rfl 18 rfl ?_
        refine own_aload X350 hx (hb hby at_18) rfl rfl 20 rfl ?_
        refine own_pureV X350 hx hZ hown (own_w hw 10 rfl) (own_w hw 11 rfl) (notFace_of_selects (args := #[]) (mvT hZ (own_w hw 13 rfl))) (own_w hw 13 rfl) (own_w hw 12 rfl) (own_w hw 6 rfl) (own_w hw 14 rfl) (by decide) w_SqlText_Control_WITH_WORK [(.ref w_SqlText_Control_NONE)] [] 0 (rm_then_5 l Z a0 hw []  h0 n0 H) (by decide) (by decide) rfl rfl e350 E_w_SqlText_Control_WITH_WORK (by rw [hml]; rfl) (lenOf pd_1 rfl) (Nat.le_of_eq rfl) (hb hby at_20) 23 rfl rfl (by decide) (by decide) fun T352 X352 e352 => ?_
        refine own_astore X352 hx (hb hby at_23) #[.val (.int x0), .val (.int x1), .val (.int x2), .val (.ref w_SqlText_Control_WITH_WORK), .val (.ref w_SqlText_Control_NONE), .val (.ref w_SqlText_Control_NONE), .val (.ref w_SqlText_Control_WITH_WORK), .unset, .unset, .unset, .unset] rfl rfl 25 rfl ?_
        refine own_aload_n X352 hx (hb hby at_25) rfl rfl 26 rfl ?_
        refine own_getS X352 hx hZ hown (host := "") (Or.inl (own_w hw 5 rfl)) Via.refl e352 S_w_SqlText_Control_NONE (hb hby at_26) 29 rfl fun T353 X353 e353 => ?_
        refine own_acmp X353 hx false (hb hby at_29) rfl rfl (decide_eq_false fun q => (Ne.symm ne_w_SqlText_Control_NONE_w_SqlText_Control_WITH_WORK) (Value.ref.inj q)) 44 (by decide) (by decide) ?_
        refine own_iconst X353 hx (hb hby at_44) (0 : Int32) rfl 45 rfl ?_
        refine own_istore X353 hx (hb hby at_45) #[.val (.int x0), .val (.int x1), .val (.int x2), .val (.ref w_SqlText_Control_WITH_WORK), .val (.ref w_SqlText_Control_NONE), .val (.ref w_SqlText_Control_NONE), .val (.ref w_SqlText_Control_WITH_WORK), .val (.int (0 : Int32)), .unset, .unset, .unset] rfl 47 rfl ?_
        refine own_iload X353 hx (hb hby at_47) rfl 49 rfl ?_
        refine own_ifY X353 hx (hb hby at_49) ((if0 _ _).trans (teq (by decide : (0 : Int32) = (0 : Int32))).1) 70 (by decide) (by decide) ?_
        refine own_aload X353 hx (hb hby at_70) rfl rfl 72 rfl ?_
        refine own_getS X353 hx hZ hown (host := "") (Or.inl (own_w hw 8 rfl)) Via.refl e353 S_w_SqlText_Control_WITH_WORK (hb hby at_72) 75 rfl fun T354 X354 e354 => ?_
        refine own_acmp X354 hx true (hb hby at_75) rfl rfl (decide_eq_true rfl) 78 (by decide) (by decide) ?_
        refine own_iconst X354 hx (hb hby at_78) (1 : Int32) rfl 79 rfl ?_
        refine own_goto X354 hx (hb hby at_79) 83 (by decide) (by decide) ?_
        refine own_istore X354 hx (hb hby at_83) #[.val (.int x0), .val (.int x1), .val (.int x2), .val (.ref w_SqlText_Control_WITH_WORK), .val (.ref w_SqlText_Control_NONE), .val (.ref w_SqlText_Control_NONE), .val (.ref w_SqlText_Control_WITH_WORK), .val (.int (0 : Int32)), .val (.int (1 : Int32)), .unset, .unset] rfl 85 rfl ?_
        refine own_aload X354 hx (hb hby at_85) rfl rfl 87 rfl ?_
        refine own_aload X354 hx (hb hby at_87) rfl rfl 89 rfl ?_
        refine own_aload_n X354 hx (hb hby at_89) rfl rfl 90 rfl ?_
        refine own_pureV X354 hx hZ hown (own_w hw 10 rfl) (own_w hw 11 rfl) (notFace_of_selects (args := #[]) (mvT hZ (own_w hw 13 rfl))) (own_w hw 13 rfl) (own_w hw 12 rfl) (own_w hw 6 rfl) (own_w hw 14 rfl) (by decide) w_SqlText_Control_NONE [(.ref w_SqlText_Control_WITH_WORK)] [(.ref w_SqlText_Control_WITH_WORK)] 1 (rm_then_3 l Z a0 hw []  h0 n0 H) (by decide) (by decide) rfl rfl e354 E_w_SqlText_Control_NONE (by rw [hml]; rfl) (lenOf pd_1 rfl) (Nat.le_of_eq rfl) (hb hby at_90) 93 rfl rfl (by decide) (by decide) fun T356 X356 e356 => ?_
        refine own_acmp X356 hx true (hb hby at_93) rfl rfl (decide_eq_true rfl) 96 (by decide) (by decide) ?_
        refine own_iconst X356 hx (hb hby at_96) (1 : Int32) rfl 97 rfl ?_
        refine own_goto X356 hx (hb hby at_97) 101 (by decide) (by decide) ?_
        refine own_istore X356 hx (hb hby at_101) #[.val (.int x0), .val (.int x1), .val (.int x2), .val (.ref w_SqlText_Control_WITH_WORK), .val (.ref w_SqlText_Control_NONE), .val (.ref w_SqlText_Control_NONE), .val (.ref w_SqlText_Control_WITH_WORK), .val (.int (0 : Int32)), .val (.int (1 : Int32)), .val (.int (1 : Int32)), .unset] rfl 103 rfl ?_
        refine own_aload X356 hx (hb hby at_103) rfl rfl 105 rfl ?_
        refine own_aload X356 hx (hb hby at_105) rfl rfl 107 rfl ?_
        refine own_pureV X356 hx hZ hown (own_w hw 10 rfl) (own_w hw 11 rfl) (notFace_of_selects (args := #[]) (mvT hZ (own_w hw 13 rfl))) (own_w hw 13 rfl) (own_w hw 12 rfl) (own_w hw 6 rfl) (own_w hw 14 rfl) (by decide) w_SqlText_Control_WITH_WORK [(.ref w_SqlText_Control_NONE)] [] 0 (rm_then_5 l Z a0 hw []  h0 n0 H) (by decide) (by decide) rfl rfl e356 E_w_SqlText_Control_WITH_WORK (by rw [hml]; rfl) (lenOf pd_1 rfl) (Nat.le_of_eq rfl) (hb hby at_107) 110 rfl rfl (by decide) (by decide) fun T358 X358 e358 => ?_
        refine own_aload_n X358 hx (hb hby at_110) rfl rfl 111 rfl ?_
        refine own_aload X358 hx (hb hby at_111) rfl rfl 113 rfl ?_
        refine own_aload X358 hx (hb hby at_113) rfl rfl 115 rfl ?_
        refine own_pureV X358 hx hZ hown (own_w hw 10 rfl) (own_w hw 11 rfl) (notFace_of_selects (args := #[]) (mvT hZ (own_w hw 13 rfl))) (own_w hw 13 rfl) (own_w hw 12 rfl) (own_w hw 6 rfl) (own_w hw 14 rfl) (by decide) w_SqlText_Control_NONE [(.ref w_SqlText_Control_NONE)] [(.ref w_SqlText_Control_WITH_WORK), (.ref w_SqlText_Control_WITH_WORK)] 2 (rm_then_1 l Z a0 hw []  h0 n0 H) (by decide) (by decide) rfl rfl e358 E_w_SqlText_Control_NONE (by rw [hml]; rfl) (lenOf pd_1 rfl) (Nat.le_of_eq rfl) (hb hby at_115) 118 rfl rfl (by decide) (by decide) fun T360 X360 e360 => ?_
        refine own_pureV X360 hx hZ hown (own_w hw 10 rfl) (own_w hw 11 rfl) (notFace_of_selects (args := #[]) (mvT hZ (own_w hw 13 rfl))) (own_w hw 13 rfl) (own_w hw 12 rfl) (own_w hw 6 rfl) (own_w hw 14 rfl) (by decide) w_SqlText_Control_WITH_WORK [(.ref w_SqlText_Control_NONE)] [(.ref w_SqlText_Control_WITH_WORK)] 1 (rm_then_5 l Z a0 hw []  h0 n0 H) (by decide) (by decide) rfl rfl e360 E_w_SqlText_Control_WITH_WORK (by rw [hml]; rfl) (lenOf pd_1 rfl) (Nat.le_of_eq rfl) (hb hby at_118) 121 rfl rfl (by decide) (by decide) fun T362 X362 e362 => ?_
        refine own_acmp X362 hx true (hb hby at_121) rfl rfl (decide_eq_true rfl) 124 (by decide) (by decide) ?_
        refine own_iconst X362 hx (hb hby at_124) (1 : Int32) rfl 125 rfl ?_
        refine own_goto X362 hx (hb hby at_125) 129 (by decide) (by decide) ?_
        refine own_istore X362 hx (hb hby at_129) #[.val (.int x0), .val (.int x1), .val (.int x2), .val (.ref w_SqlText_Control_WITH_WORK), .val (.ref w_SqlText_Control_NONE), .val (.ref w_SqlText_Control_NONE), .val (.ref w_SqlText_Control_WITH_WORK), .val (.int (0 : Int32)), .val (.int (1 : Int32)), .val (.int (1 : Int32)), .val (.int (1 : Int32))] rfl 131 rfl ?_
        refine own_iload X362 hx (hb hby at_131) rfl 133 rfl ?_
        refine own_ifN X362 hx (hb hby at_133) ((if0 _ _).trans (feq (by decide : ¬ ((1 : Int32) = (0 : Int32)))).1) 136 rfl ?_
        refine own_iload X362 hx (hb hby at_136) rfl 138 rfl ?_
        refine own_ifN X362 hx (hb hby at_138) ((if0 _ _).trans (feq (by decide : ¬ ((1 : Int32) = (0 : Int32)))).1) 141 rfl ?_
        refine own_iload X362 hx (hb hby at_141) rfl 143 rfl ?_
        refine own_ifN X362 hx (hb hby at_143) ((if0 _ _).trans (feq (by decide : ¬ ((1 : Int32) = (0 : Int32)))).1) 146 rfl ?_
        refine own_iconst X362 hx (hb hby at_146) (1 : Int32) rfl 147 rfl ?_
        refine own_goto X362 hx (hb hby at_147) 151 (by decide) (by decide) ?_
        exact own_retZ X362 hx hk hret (hb hby at_151) rfl ⟨rfl, Fr.nil _⟩ (by decide) (by decide)
      · skip
        refine own_iload_n X0 hx (hb hby at_0) rfl 1 rfl ?_
        refine own_pureS X0 hx hZ hown (own_w hw 0 rfl) (own_w hw 1 rfl) (own_w hw 2 rfl) (own_w hw 3 rfl) (by decide) [(.int x0)] [] 0 (rm_pick_2 l Z a0 hw [] x0 h0 n0 H q1) (by decide) (by decide) rfl rfl e0 (by rw [hml]; rfl) (lenOf pd_0 rfl) (Nat.le_of_eq rfl) (hb hby at_1) 4 rfl rfl (by decide) (by decide) fun T364 X364 e364 => ?_
        refine own_astore_n X364 hx (hb hby at_4) #[.val (.int x0), .val (.int x1), .val (.int x2), .val (.ref w_SqlText_Control_WITH_WORK), .unset, .unset, .unset, .unset, .unset, .unset, .unset] rfl rfl 5 rfl ?_
        refine own_iload_n X364 hx (hb hby at_5) rfl 6 rfl ?_
        refine own_pureS X364 hx hZ hown (own_w hw 0 rfl) (own_w hw 1 rfl) (own_w hw 2 rfl) (own_w hw 3 rfl) (by decide) [(.int x1)] [] 0 (rm_pick_0 l Z a0 hw [] x1 h0 n0 H q343) (by decide) (by decide) rfl rfl e364 (by rw [hml]; rfl) (lenOf pd_0 rfl) (Nat.le_of_eq rfl) (hb hby at_6) 9 rfl rfl (by decide) (by decide) fun T366 X366 e366 => ?_
        refine own_astore X366 hx (hb hby at_9) #[.val (.int x0), .val (.int x1), .val (.int x2), .val (.ref w_SqlText_Control_WITH_WORK), .val (.ref w_SqlText_Control_NONE), .unset, .unset, .unset, .unset, .unset, .unset] rfl rfl 11 rfl ?_
        refine own_iload_n X366 hx (hb hby at_11) rfl 12 rfl ?_
        refine own_pureS X366 hx hZ hown (own_w hw 0 rfl) (own_w hw 1 rfl) (own_w hw 2 rfl) (own_w hw 3 rfl) (by decide) [(.int x2)] [] 0 (rm_pick_1 l Z a0 hw [] x2 h0 n0 H q344) (by decide) (by decide) rfl rfl e366 (by rw [hml]; rfl) (lenOf pd_0 rfl) (Nat.le_of_eq rfl) (hb hby at_12) 15 rfl rfl (by decide) (by decide) fun T368 X368 e368 => ?_
        refine own_astore X368 hx (hb hby at_15) #[.val (.int x0), .val (.int x1), .val (.int x2), .val (.ref w_SqlText_Control_WITH_WORK), .val (.ref w_SqlText_Control_NONE), .val (.ref w_SqlText_Control_ALONE), .unset, .unset, .unset, .unset, .unset] rfl rfl 17 rfl ?_
        refine own_aload_n X368 hx (hb hby at_17) rfl rfl 18 rfl ?_
        refine own_aload X368 hx (hb hby at_18) rfl rfl 20 rfl ?_
        refine own_pureV X368 hx hZ hown (own_w hw 10 rfl) (own_w hw 11 rfl) (notFace_of_selects (args := #[]) (mvT hZ (own_w hw 13 rfl))) (own_w hw 13 rfl) (own_w hw 12 rfl) (own_w hw 6 rfl) (own_w hw 14 rfl) (by decide) w_SqlText_Control_WITH_WORK [(.ref w_SqlText_Control_NONE)] [] 0 (rm_then_5 l Z a0 hw []  h0 n0 H) (by decide) (by decide) rfl rfl e368 E_w_SqlText_Control_WITH_WORK (by rw [hml]; rfl) (lenOf pd_1 rfl) (Nat.le_of_eq rfl) (hb hby at_20) 23 rfl rfl (by decide) (by decide) fun T370 X370 e370 => ?_
        refine own_astore X370 hx (hb hby at_23) #[.val (.int x0), .val (.int x1), .val (.int x2), .val (.ref w_SqlText_Control_WITH_WORK), .val (.ref w_SqlText_Control_NONE), .val (.ref w_SqlText_Control_ALONE), .val (.ref w_SqlText_Control_WITH_WORK), .unset, .unset, .unset, .unset] rfl rfl 25 rfl ?_
        refine own_aload_n X370 hx (hb hby at_25) rfl rfl 26 rfl ?_
        refine own_getS X370 hx hZ hown (host := "") (Or.inl (own_w hw 5 rfl)) Via.refl e370 S_w_SqlText_Control_NONE (hb hby at_26) 29 rfl fun T371 X371 e371 => ?_
        refine own_acmp X371 hx false (hb hby at_29) rfl rfl (decide_eq_false fun q => (Ne.symm ne_w_SqlText_Control_NONE_w_SqlText_Control_WITH_WORK) (Value.ref.inj q)) 44 (by decide) (by decide) ?_
        refine own_iconst X371 hx (hb hby at_44) (0 : Int32) rfl 45 rfl ?_
        refine own_istore X371 hx (hb hby at_45) #[.val (.int x0), .val (.int x1), .val (.int x2), .val (.ref w_SqlText_Control_WITH_WORK), .val (.ref w_SqlText_Control_NONE), .val (.ref w_SqlText_Control_ALONE), .val (.ref w_SqlText_Control_WITH_WORK), .val (.int (0 : Int32)), .unset, .unset, .unset] rfl 47 rfl ?_
        refine own_iload X371 hx (hb hby at_47) rfl 49 rfl ?_
        refine own_ifY X371 hx (hb hby at_49) ((if0 _ _).trans (teq (by decide : (0 : Int32) = (0 : Int32))).1) 70 (by decide) (by decide) ?_
        refine own_aload X371 hx (hb hby at_70) rfl rfl 72 rfl ?_
        refine own_getS X371 hx hZ hown (host := "") (Or.inl (own_w hw 8 rfl)) Via.refl e371 S_w_SqlText_Control_WITH_WORK (hb hby at_72) 75 rfl fun T372 X372 e372 => ?_
        refine own_acmp X372 hx true (hb hby at_75) rfl rfl (decide_eq_true rfl) 78 (by decide) (by decide) ?_
        refine own_iconst X372 hx (hb hby at_78) (1 : Int32) rfl 79 rfl ?_
        refine own_goto X372 hx (hb hby at_79) 83 (by decide) (by decide) ?_
        refine own_istore X372 hx (hb hby at_83) #[.val (.int x0), .val (.int x1), .val (.int x2), .val (.ref w_SqlText_Control_WITH_WORK), .val (.ref w_SqlText_Control_NONE), .val (.ref w_SqlText_Control_ALONE), .val (.ref w_SqlText_Control_WITH_WORK), .val (.int (0 : Int32)), .val (.int (1 : Int32)), .unset, .unset] rfl 85 rfl ?_
        refine own_aload X372 hx (hb hby at_85) rfl rfl 87 rfl ?_
        refine own_aload X372 hx (hb hby at_87) rfl rfl 89 rfl ?_
        refine own_aload_n X372 hx (hb hby at_89) rfl rfl 90 rfl ?_
        refine own_pureV X372 hx hZ hown (own_w hw 10 rfl) (own_w hw 11 rfl) (notFace_of_selects (args := #[]) (mvT hZ (own_w hw 13 rfl))) (own_w hw 13 rfl) (own_w hw 12 rfl) (own_w hw 6 rfl) (own_w hw 14 rfl) (by decide) w_SqlText_Control_NONE [(.ref w_SqlText_Control_WITH_WORK)] [(.ref w_SqlText_Control_WITH_WORK)] 1 (rm_then_3 l Z a0 hw []  h0 n0 H) (by decide) (by decide) rfl rfl e372 E_w_SqlText_Control_NONE (by rw [hml]; rfl) (lenOf pd_1 rfl) (Nat.le_of_eq rfl) (hb hby at_90) 93 rfl rfl (by decide) (by decide) fun T374 X374 e374 => ?_
        refine own_acmp X374 hx true (hb hby at_93) rfl rfl (decide_eq_true rfl) 96 (by decide) (by decide) ?_
        refine own_iconst X374 hx (hb hby at_96) (1 : Int32) rfl 97 rfl ?_
        refine own_goto X374 hx (hb hby at_97) 101 (by decide) (by decide) ?_
        refine own_istore X374 hx (hb hby at_101) #[.val (.int x0), .val (.int x1), .val (.int x2), .val (.ref w_SqlText_Control_WITH_WORK), .val (.ref w_SqlText_Control_NONE), .val (.ref w_SqlText_Control_ALONE), .val (.ref w_SqlText_Control_WITH_WORK), .val (.int (0 : Int32)), .val (.int (1 : Int32)), .val (.int (1 : Int32)), .unset] rfl 103 rfl ?_
        refine own_aload X374 hx (hb hby at_103) rfl rfl 105 rfl ?_
        refine own_aload X374 hx (hb hby at_105) rfl rfl 107 rfl ?_
        refine own_pureV X374 hx hZ hown (own_w hw 10 rfl) (own_w hw 11 rfl) (notFace_of_selects (args := #[]) (mvT hZ (own_w hw 13 rfl))) (own_w hw 13 rfl) (own_w hw 12 rfl) (own_w hw 6 rfl) (own_w hw 14 rfl) (by decide) w_SqlText_Control_WITH_WORK [(.ref w_SqlText_Control_ALONE)] [] 0 (rm_then_6 l Z a0 hw []  h0 n0 H) (by decide) (by decide) rfl rfl e374 E_w_SqlText_Control_WITH_WORK (by rw [hml]; rfl) (lenOf pd_1 rfl) (Nat.le_of_eq rfl) (hb hby at_107) 110 rfl rfl (by decide) (by decide) fun T376 X376 e376 => ?_
        refine own_aload_n X376 hx (hb hby at_110) rfl rfl 111 rfl ?_
        refine own_aload X376 hx (hb hby at_111) rfl rfl 113 rfl ?_
        refine own_aload X376 hx (hb hby at_113) rfl rfl 115 rfl ?_
        refine own_pureV X376 hx hZ hown (own_w hw 10 rfl) (own_w hw 11 rfl) (notFace_of_selects (args := #[]) (mvT hZ (own_w hw 13 rfl))) (own_w hw 13 rfl) (own_w hw 12 rfl) (own_w hw 6 rfl) (own_w hw 14 rfl) (by decide) w_SqlText_Control_NONE [(.ref w_SqlText_Control_ALONE)] [(.ref w_SqlText_Control_WITH_WORK), (.ref w_SqlText_Control_WITH_WORK)] 2 (rm_then_2 l Z a0 hw []  h0 n0 H) (by decide) (by decide) rfl rfl e376 E_w_SqlText_Control_NONE (by rw [hml]; rfl) (lenOf pd_1 rfl) (Nat.le_of_eq rfl) (hb hby at_115) 118 rfl rfl (by decide) (by decide) fun T378 X378 e378 => ?_
        refine own_pureV X378 hx hZ hown (own_w hw 10 rfl) (own_w hw 11 rfl) (notFace_of_selects (args := #[]) (mvT hZ (own_w hw 13 rfl))) (own_w hw 13 rfl) (own_w hw 12 rfl) (own_w hw 6 rfl) (own_w hw 14 rfl) (by decide) w_SqlText_Control_WITH_WORK [(.ref w_SqlText_Control_WITH_WORK)] [(.ref w_SqlText_Control_WITH_WORK)] 1 (rm_then_8 l Z a0 hw []  h0 n0 H) (by decide) (by decide) rfl rfl e378 E_w_SqlText_Control_WITH_WORK (by rw [hml]; rfl) (lenOf pd_1 rfl) (Nat.le_of_eq rfl) (hb hby at_118) 121 rfl rfl (by decide) (by decide) fun T380 X380 e380 => ?_
        refine own_acmp X380 hx true (hb hby at_121) rfl rfl (decide_eq_true rfl) 124 (by decide) (by decide) ?_
        refine own_iconst X380 hx (hb hby at_124) (1 : Int32) rfl 125 rfl ?_
        refine own_goto X380 hx (hb hby at_125) 129 (by decide) (by decide) ?_
        refine own_istore X380 hx (hb hby at_129) #[.val (.int x0), .val (.int x1), .val (.int x2), .val (.ref w_SqlText_Control_WITH_WORK), .val (.ref w_SqlText_Control_NONE), .val (.ref w_SqlText_Control_ALONE), .val (.ref w_SqlText_Control_WITH_WORK), .val (.int (0 : Int32)), .val (.int (1 : Int32)), .val (.int (1 : Int32)), .val (.int (1 : Int32))] rfl 131 rfl ?_
        refine own_iload X380 hx (hb hby at_131) rfl 133 rfl ?_
        refine own_ifN X380 hx (hb hby at_133) ((if0 _ _).trans (feq (by decide : ¬ ((1 : Int32) = (0 : Int32)))).1) 136 rfl ?_
        refine own_iload X380 hx (hb hby at_136) rfl 138 rfl ?_
        refine own_ifN X380 hx (hb hby at_138) ((if0 _ _).trans (feq (by decide : ¬ ((1 : Int32) = (0 : Int32)))).1) 141 rfl ?_
        refine own_iload X380 hx (hb hby at_141) rfl 143 rfl ?_
        refine own_ifN X380 hx (hb hby at_143) ((if0 _ _).trans (feq (by decide : ¬ ((1 : Int32) = (0 : Int32)))).1) 146 rfl ?_
        refine own_iconst X380 hx (hb hby at_146) (1 : Int32) rfl 147 rfl ?_
        refine own_goto X380 hx (hb hby at_147) 151 (by decide) (by decide) ?_
        exact own_retZ X380 hx hk hret (hb hby at_151) rfl ⟨rfl, Fr.nil _⟩ (by decide) (by decide)
      · skip
        refine own_iload_n X0 hx (hb hby at_0) rfl 1 rfl ?_
        refine own_pureS X0 hx hZ hown (own_w hw 0 rfl) (own_w hw 1 rfl) (own_w hw 2 rfl) (own_w hw 3 rfl) (by decide) [(.int x0)] [] 0 (rm_pick_2 l Z a0 hw [] x0 h0 n0 H q1) (by decide) (by decide) rfl rfl e0 (by rw [hml]; rfl) (lenOf pd_0 rfl) (Nat.le_of_eq rfl) (hb hby at_1) 4 rfl rfl (by decide) (by decide) fun T382 X382 e382 => ?_
        refine own_astore_n X382 hx (hb hby at_4) #[.val (.int x0), .val (.int x1), .val (.int x2), .val (.ref w_SqlText_Control_WITH_WORK), .unset, .unset, .unset, .unset, .unset, .unset, .unset] rfl rfl 5 rfl ?_
        refine own_iload_n X382 hx (hb hby at_5) rfl 6 rfl ?_
        refine own_pureS X382 hx hZ hown (own_w hw 0 rfl) (own_w hw 1 rfl) (own_w hw 2 rfl) (own_w hw 3 rfl) (by decide) [(.int x1)] [] 0 (rm_pick_0 l Z a0 hw [] x1 h0 n0 H q343) (by decide) (by decide) rfl rfl e382 (by rw [hml]; rfl) (lenOf pd_0 rfl) (Nat.le_of_eq rfl) (hb hby at_6) 9 rfl rfl (by decide) (by decide) fun T384 X384 e384 => ?_
        refine own_astore X384 hx (hb hby at_9) #[.val (.int x0), .val (.int x1), .val (.int x2), .val (.ref w_SqlText_Control_WITH_WORK), .val (.ref w_SqlText_Control_NONE), .unset, .unset, .unset, .unset, .unset, .unset] rfl rfl 11 rfl ?_
        refine own_iload_n X384 hx (hb hby at_11) rfl 12 rfl ?_
        refine own_pureS X384 hx hZ hown (own_w hw 0 rfl) (own_w hw 1 rfl) (own_w hw 2 rfl) (own_w hw 3 rfl) (by decide) [(.int x2)] [] 0 (rm_pick_2 l Z a0 hw [] x2 h0 n0 H q344) (by decide) (by decide) rfl rfl e384 (by rw [hml]; rfl) (lenOf pd_0 rfl) (Nat.le_of_eq rfl) (hb hby at_12) 15 rfl rfl (by decide) (by decide) fun T386 X386 e386 => ?_
        refine own_astore X386 hx (hb hby at_15) #[.val (.int x0), .val (.int x1), .val (.int x2), .val (.ref w_SqlText_Control_WITH_WORK), .val (.ref w_SqlText_Control_NONE), .val (.ref w_SqlText_Control_WITH_WORK), .unset, .unset, .unset, .unset, .unset] rfl rfl 17 rfl ?_
        refine own_aload_n X386 hx (hb hby at_17) rfl rfl 18 rfl ?_
        refine own_aload X386 hx (hb hby at_18) rfl rfl 20 rfl ?_
        refine own_pureV X386 hx hZ hown (own_w hw 10 rfl) (own_w hw 11 rfl) (notFace_of_selects (args := #[]) (mvT hZ (own_w hw 13 rfl))) (own_w hw 13 rfl) (own_w hw 12 rfl) (own_w hw 6 rfl) (own_w hw 14 rfl) (by decide) w_SqlText_Control_WITH_WORK [(.ref w_SqlText_Control_NONE)] [] 0 (rm_then_5 l Z a0 hw []  h0 n0 H) (by decide) (by decide) rfl rfl e386 E_w_SqlText_Control_WITH_WORK (by rw [hml]; rfl) (lenOf pd_1 rfl) (Nat.le_of_eq rfl) (hb hby at_20) 23 rfl rfl (by decide) (by decide) fun T388 X388 e388 => ?_
        refine own_astore X388 hx (hb hby at_23) #[.val (.int x0), .val (.int x1), .val (.int x2), .val (.ref w_SqlText_Control_WITH_WORK), .val (.ref w_SqlText_Control_NONE), .val (.ref w_SqlText_Control_WITH_WORK), .val (.ref w_SqlText_Control_WITH_WORK), .unset, .unset, .unset, .unset] rfl rfl 25 rfl ?_
        refine own_aload_n X388 hx (hb hby at_25) rfl rfl 26 rfl ?_
        refine own_getS X388 hx hZ hown (host := "") (Or.inl (own_w hw 5 rfl)) Via.refl e388 S_w_SqlText_Control_NONE (hb hby at_26) 29 rfl fun T389 X389 e389 => ?_
        refine own_acmp X389 hx false (hb hby at_29) rfl rfl (decide_eq_false fun q => (Ne.symm ne_w_SqlText_Control_NONE_w_SqlText_Control_WITH_WORK) (Value.ref.inj q)) 44 (by decide) (by decide) ?_
        refine own_iconst X389 hx (hb hby at_44) (0 : Int32) rfl 45 rfl ?_
        refine own_istore X389 hx (hb hby at_45) #[.val (.int x0), .val (.int x1), .val (.int x2), .val (.ref w_SqlText_Control_WITH_WORK), .val (.ref w_SqlText_Control_NONE), .val (.ref w_SqlText_Control_WITH_WORK), .val (.ref w_SqlText_Control_WITH_WORK), .val (.int (0 : Int32)), .unset, .unset, .unset] rfl 47 rfl ?_
        refine own_iload X389 hx (hb hby at_47) rfl 49 rfl ?_
        refine own_ifY X389 hx (hb hby at_49) ((if0 _ _).trans (teq (by decide : (0 : Int32) = (0 : Int32))).1) 70 (by decide) (by decide) ?_
        refine own_aload X389 hx (hb hby at_70) rfl rfl 72 rfl ?_
        refine own_getS X389 hx hZ hown (host := "") (Or.inl (own_w hw 8 rfl)) Via.refl e389 S_w_SqlText_Control_WITH_WORK (hb hby at_72) 75 rfl fun T390 X390 e390 => ?_
        refine own_acmp X390 hx true (hb hby at_75) rfl rfl (decide_eq_true rfl) 78 (by decide) (by decide) ?_
        refine own_iconst X390 hx (hb hby at_78) (1 : Int32) rfl 79 rfl ?_
        refine own_goto X390 hx (hb hby at_79) 83 (by decide) (by decide) ?_
        refine own_istore X390 hx (hb hby at_83) #[.val (.int x0), .val (.int x1), .val (.int x2), .val (.ref w_SqlText_Control_WITH_WORK), .val (.ref w_SqlText_Control_NONE), .val (.ref w_SqlText_Control_WITH_WORK), .val (.ref w_SqlText_Control_WITH_WORK), .val (.int (0 : Int32)), .val (.int (1 : Int32)), .unset, .unset] rfl 85 rfl ?_
        refine own_aload X390 hx (hb hby at_85) rfl rfl 87 rfl ?_
        refine own_aload X390 hx (hb hby at_87) rfl rfl 89 rfl ?_
        refine own_aload_n X390 hx (hb hby at_89) rfl rfl 90 rfl ?_
        refine own_pureV X390 hx hZ hown (own_w hw 10 rfl) (own_w hw 11 rfl) (notFace_of_selects (args := #[]) (mvT hZ (own_w hw 13 rfl))) (own_w hw 13 rfl) (own_w hw 12 rfl) (own_w hw 6 rfl) (own_w hw 14 rfl) (by decide) w_SqlText_Control_NONE [(.ref w_SqlText_Control_WITH_WORK)] [(.ref w_SqlText_Control_WITH_WORK)] 1 (rm_then_3 l Z a0 hw []  h0 n0 H) (by decide) (by decide) rfl rfl e390 E_w_SqlText_Control_NONE (by rw [hml]; rfl) (lenOf pd_1 rfl) (Nat.le_of_eq rfl) (hb hby at_90) 93 rfl rfl (by decide) (by decide) fun T392 X392 e392 => ?_
        refine own_acmp X392 hx true (hb hby at_93) rfl rfl (decide_eq_true rfl) 96 (by decide) (by decide) ?_
        refine own_iconst X392 hx (hb hby at_96) (1 : Int32) rfl 97 rfl ?_
        refine own_goto X392 hx (hb hby at_97) 101 (by decide) (by decide) ?_
        refine own_istore X392 hx (hb hby at_101) #[.val (.int x0), .val (.int x1), .val (.int x2), .val (.ref w_SqlText_Control_WITH_WORK), .val (.ref w_SqlText_Control_NONE), .val (.ref w_SqlText_Control_WITH_WORK), .val (.ref w_SqlText_Control_WITH_WORK), .val (.int (0 : Int32)), .val (.int (1 : Int32)), .val (.int (1 : Int32)), .unset] rfl 103 rfl ?_
        refine own_aload X392 hx (hb hby at_103) rfl rfl 105 rfl ?_
        refine own_aload X392 hx (hb hby at_105) rfl rfl 107 rfl ?_
        refine own_pureV X392 hx hZ hown (own_w hw 10 rfl) (own_w hw 11 rfl) (notFace_of_selects (args := #[]) (mvT hZ (own_w hw 13 rfl))) (own_w hw 13 rfl) (own_w hw 12 rfl) (own_w hw 6 rfl) (own_w hw 14 rfl) (by decide) w_SqlText_Control_WITH_WORK [(.ref w_SqlText_Control_WITH_WORK)] [] 0 (rm_then_8 l Z a0 hw []  h0 n0 H) (by decide) (by decide) rfl rfl e392 E_w_SqlText_Control_WITH_WORK (by rw [hml]; rfl) (lenOf pd_1 rfl) (Nat.le_of_eq rfl) (hb hby at_107) 110 rfl rfl (by decide) (by decide) fun T394 X394 e394 => ?_
        refine own_aload_n X394 hx (hb hby at_110) rfl rfl 111 rfl ?_
        refine own_aload X394 hx (hb hby at_111) rfl rfl 113 rfl ?_
        refine own_aload X394 hx (hb hby at_113) rfl rfl 115 rfl ?_
        refine own_pureV X394 hx hZ hown (own_w hw 10 rfl) (own_w hw 11 rfl) (notFace_of_selects (args := #[]) (mvT hZ (own_w hw 13 rfl))) (own_w hw 13 rfl) (own_w hw 12 rfl) (own_w hw 6 rfl) (own_w hw 14 rfl) (by decide) w_SqlText_Control_NONE [(.ref w_SqlText_Control_WITH_WORK)] [(.ref w_SqlText_Control_WITH_WORK), (.ref w_SqlText_Control_WITH_WORK)] 2 (rm_then_3 l Z a0 hw []  h0 n0 H) (by decide) (by decide) rfl rfl e394 E_w_SqlText_Control_NONE (by rw [hml]; rfl) (lenOf pd_1 rfl) (Nat.le_of_eq rfl) (hb hby at_115) 118 rfl rfl (by decide) (by decide) fun T396 X396 e396 => ?_
        refine own_pureV X396 hx hZ hown (own_w hw 10 rfl) (own_w hw 11 rfl) (notFace_of_selects (args := #[]) (mvT hZ (own_w hw 13 rfl))) (own_w hw 13 rfl) (own_w hw 12 rfl) (own_w hw 6 rfl) (own_w hw 14 rfl) (by decide) w_SqlText_Control_WITH_WORK [(.ref w_SqlText_Control_WITH_WORK)] [(.ref w_SqlText_Control_WITH_WORK)] 1 (rm_then_8 l Z a0 hw []  h0 n0 H) (by decide) (by decide) rfl rfl e396 E_w_SqlText_Control_WITH_WORK (by rw [hml]; rfl) (lenOf pd_1 rfl) (Nat.le_of_eq rfl) (hb hby at_118) 121 rfl rfl (by decide) (by decide) fun T398 X398 e398 => ?_
        refine own_acmp X398 hx true (hb hby at_121) rfl rfl (decide_eq_true rfl) 124 (by decide) (by decide) ?_
        refine own_iconst X398 hx (hb hby at_124) (1 : Int32) rfl 125 rfl ?_
        refine own_goto X398 hx (hb hby at_125) 129 (by decide) (by decide) ?_
        refine own_istore X398 hx (hb hby at_129) #[.val (.int x0), .val (.int x1), .val (.int x2), .val (.ref w_SqlText_Control_WITH_WORK), .val (.ref w_SqlText_Control_NONE), .val (.ref w_SqlText_Control_WITH_WORK), .val (.ref w_SqlText_Control_WITH_WORK), .val (.int (0 : Int32)), .val (.int (1 : Int32)), .val (.int (1 : Int32)), .val (.int (1 : Int32))] rfl 131 rfl ?_
        refine own_iload X398 hx (hb hby at_131) rfl 133 rfl ?_
        refine own_ifN X398 hx (hb hby at_133) ((if0 _ _).trans (feq (by decide : ¬ ((1 : Int32) = (0 : Int32)))).1) 136 rfl ?_
        refine own_iload X398 hx (hb hby at_136) rfl 138 rfl ?_
        refine own_ifN X398 hx (hb hby at_138) ((if0 _ _).trans (feq (by decide : ¬ ((1 : Int32) = (0 : Int32)))).1) 141 rfl ?_
        refine own_iload X398 hx (hb hby at_141) rfl 143 rfl ?_
        refine own_ifN X398 hx (hb hby at_143) ((if0 _ _).trans (feq (by decide : ¬ ((1 : Int32) = (0 : Int32)))).1) 146 rfl ?_
        refine own_iconst X398 hx (hb hby at_146) (1 : Int32) rfl 147 rfl ?_
        refine own_goto X398 hx (hb hby at_147) 151 (by decide) (by decide) ?_
        exact own_retZ X398 hx hk hret (hb hby at_151) rfl ⟨rfl, Fr.nil _⟩ (by decide) (by decide)
    · skip
      rcases own_mod3 x2 with q399 | q399 | q399
      · skip
        refine own_iload_n X0 hx (hb hby at_0) rfl 1 rfl ?_
        refine own_pureS X0 hx hZ hown (own_w hw 0 rfl) (own_w hw 1 rfl) (own_w hw 2 rfl) (own_w hw 3 rfl) (by decide) [(.int x0)] [] 0 (rm_pick_2 l Z a0 hw [] x0 h0 n0 H q1) (by decide) (by decide) rfl rfl e0 (by rw [hml]; rfl) (lenOf pd_0 rfl) (Nat.le_of_eq rfl) (hb hby at_1) 4 rfl rfl (by decide) (by decide) fun T401 X401 e401 => ?_
        refine own_astore_n X401 hx (hb hby at_4) #[.val (.int x0), .val (.int x1), .val (.int x2), .val (.ref w_SqlText_Control_WITH_WORK), .unset, .unset, .unset, .unset, .unset, .unset, .unset] rfl rfl 5 rfl ?_
        refine own_iload_n X401 hx (hb hby at_5) rfl 6 rfl ?_
        refine own_pureS X401 hx hZ hown (own_w hw 0 rfl) (own_w hw 1 rfl) (own_w hw 2 rfl) (own_w hw 3 rfl) (by decide) [(.int x1)] [] 0 (rm_pick_1 l Z a0 hw [] x1 h0 n0 H q343) (by decide) (by decide) rfl rfl e401 (by rw [hml]; rfl) (lenOf pd_0 rfl) (Nat.le_of_eq rfl) (hb hby at_6) 9 rfl rfl (by decide) (by decide) fun T403 X403 e403 => ?_
        refine own_astore X403 hx (hb hby at_9) #[.val (.int x0), .val (.int x1), .val (.int x2), .val (.ref w_SqlText_Control_WITH_WORK), .val (.ref w_SqlText_Control_ALONE), .unset, .unset, .unset, .unset, .unset, .unset] rfl rfl 11 rfl ?_
        refine own_iload_n X403 hx (hb hby at_11) rfl 12 rfl ?_
        refine own_pureS X403 hx hZ hown (own_w hw 0 rfl) (own_w hw 1 rfl) (own_w hw 2 rfl) (own_w hw 3 rfl) (by decide) [(.int x2)] [] 0 (rm_pick_0 l Z a0 hw [] x2 h0 n0 H q399) (by decide) (by decide) rfl rfl e403 (by rw [hml]; rfl) (lenOf pd_0 rfl) (Nat.le_of_eq rfl) (hb hby at_12) 15 rfl rfl (by decide) (by decide) fun T405 X405 e405 => ?_
        refine own_astore X405 hx (hb hby at_15) #[.val (.int x0), .val (.int x1), .val (.int x2), .val (.ref w_SqlText_Control_WITH_WORK), .val (.ref w_SqlText_Control_ALONE), .val (.ref w_SqlText_Control_NONE), .unset, .unset, .unset, .unset, .unset] rfl rfl 17 rfl ?_
        refine own_aload_n X405 hx (hb hby at_17) rfl rfl 18 rfl ?_
        refine own_aload X405 hx (hb hby at_18) rfl rfl 20 rfl ?_
        refine own_pureV X405 hx hZ hown (own_w hw 10 rfl) (own_w hw 11 rfl) (notFace_of_selects (args := #[]) (mvT hZ (own_w hw 13 rfl))) (own_w hw 13 rfl) (own_w hw 12 rfl) (own_w hw 6 rfl) (own_w hw 14 rfl) (by decide) w_SqlText_Control_WITH_WORK [(.ref w_SqlText_Control_ALONE)] [] 0 (rm_then_6 l Z a0 hw []  h0 n0 H) (by decide) (by decide) rfl rfl e405 E_w_SqlText_Control_WITH_WORK (by rw [hml]; rfl) (lenOf pd_1 rfl) (Nat.le_of_eq rfl) (hb hby at_20) 23 rfl rfl (by decide) (by decide) fun T407 X407 e407 => ?_
        refine own_astore X407 hx (hb hby at_23) #[.val (.int x0), .val (.int x1), .val (.int x2), .val (.ref w_SqlText_Control_WITH_WORK), .val (.ref w_SqlText_Control_ALONE), .val (.ref w_SqlText_Control_NONE), .val (.ref w_SqlText_Control_WITH_WORK), .unset, .unset, .unset, .unset] rfl rfl 25 rfl ?_
        refine own_aload_n X407 hx (hb hby at_25) rfl rfl 26 rfl ?_
        refine own_getS X407 hx hZ hown (host := "") (Or.inl (own_w hw 5 rfl)) Via.refl e407 S_w_SqlText_Control_NONE (hb hby at_26) 29 rfl fun T408 X408 e408 => ?_
        refine own_acmp X408 hx false (hb hby at_29) rfl rfl (decide_eq_false fun q => (Ne.symm ne_w_SqlText_Control_NONE_w_SqlText_Control_WITH_WORK) (Value.ref.inj q)) 44 (by decide) (by decide) ?_
        refine own_iconst X408 hx (hb hby at_44) (0 : Int32) rfl 45 rfl ?_
        refine own_istore X408 hx (hb hby at_45) #[.val (.int x0), .val (.int x1), .val (.int x2), .val (.ref w_SqlText_Control_WITH_WORK), .val (.ref w_SqlText_Control_ALONE), .val (.ref w_SqlText_Control_NONE), .val (.ref w_SqlText_Control_WITH_WORK), .val (.int (0 : Int32)), .unset, .unset, .unset] rfl 47 rfl ?_
        refine own_iload X408 hx (hb hby at_47) rfl 49 rfl ?_
        refine own_ifY X408 hx (hb hby at_49) ((if0 _ _).trans (teq (by decide : (0 : Int32) = (0 : Int32))).1) 70 (by decide) (by decide) ?_
        refine own_aload X408 hx (hb hby at_70) rfl rfl 72 rfl ?_
        refine own_getS X408 hx hZ hown (host := "") (Or.inl (own_w hw 8 rfl)) Via.refl e408 S_w_SqlText_Control_WITH_WORK (hb hby at_72) 75 rfl fun T409 X409 e409 => ?_
        refine own_acmp X409 hx true (hb hby at_75) rfl rfl (decide_eq_true rfl) 78 (by decide) (by decide) ?_
        refine own_iconst X409 hx (hb hby at_78) (1 : Int32) rfl 79 rfl ?_
        refine own_goto X409 hx (hb hby at_79) 83 (by decide) (by decide) ?_
        refine own_istore X409 hx (hb hby at_83) #[.val (.int x0), .val (.int x1), .val (.int x2), .val (.ref w_SqlText_Control_WITH_WORK), .val (.ref w_SqlText_Control_ALONE), .val (.ref w_SqlText_Control_NONE), .val (.ref w_SqlText_Control_WITH_WORK), .val (.int (0 : Int32)), .val (.int (1 : Int32)), .unset, .unset] rfl 85 rfl ?_
        refine own_aload X409 hx (hb hby at_85) rfl rfl 87 rfl ?_
        refine own_aload X409 hx (hb hby at_87) rfl rfl 89 rfl ?_
        refine own_aload_n X409 hx (hb hby at_89) rfl rfl 90 rfl ?_
        refine own_pureV X409 hx hZ hown (own_w hw 10 rfl) (own_w hw 11 rfl) (notFace_of_selects (args := #[]) (mvT hZ (own_w hw 13 rfl))) (own_w hw 13 rfl) (own_w hw 12 rfl) (own_w hw 6 rfl) (own_w hw 14 rfl) (by decide) w_SqlText_Control_ALONE [(.ref w_SqlText_Control_WITH_WORK)] [(.ref w_SqlText_Control_WITH_WORK)] 1 (rm_then_9 l Z a0 hw []  h0 n0 H) (by decide) (by decide) rfl rfl e409 E_w_SqlText_Control_ALONE (by rw [hml]; rfl) (lenOf pd_1 rfl) (Nat.le_of_eq rfl) (hb hby at_90) 93 rfl rfl (by decide) (by decide) fun T411 X411 e411 => ?_
        refine own_acmp X411 hx true (hb hby at_93) rfl rfl (decide_eq_true rfl) 96 (by decide) (by decide) ?_
        refine own_iconst X411 hx (hb hby at_96) (1 : Int32) rfl 97 rfl ?_
        refine own_goto X411 hx (hb hby at_97) 101 (by decide) (by decide) ?_
        refine own_istore X411 hx (hb hby at_101) #[.val (.int x0), .val (.int x1), .val (.int x2), .val (.ref w_SqlText_Control_WITH_WORK), .val (.ref w_SqlText_Control_ALONE), .val (.ref w_SqlText_Control_NONE), .val (.ref w_SqlText_Control_WITH_WORK), .val (.int (0 : Int32)), .val (.int (1 : Int32)), .val (.int (1 : Int32)), .unset] rfl 103 rfl ?_
        refine own_aload X411 hx (hb hby at_103) rfl rfl 105 rfl ?_
        refine own_aload X411 hx (hb hby at_105) rfl rfl 107 rfl ?_
        refine own_pureV X411 hx hZ hown (own_w hw 10 rfl) (own_w hw 11 rfl) (notFace_of_selects (args := #[]) (mvT hZ (own_w hw 13 rfl))) (own_w hw 13 rfl) (own_w hw 12 rfl) (own_w hw 6 rfl) (own_w hw 14 rfl) (by decide) w_SqlText_Control_WITH_WORK [(.ref w_SqlText_Control_NONE)] [] 0 (rm_then_5 l Z a0 hw []  h0 n0 H) (by decide) (by decide) rfl rfl e411 E_w_SqlText_Control_WITH_WORK (by rw [hml]; rfl) (lenOf pd_1 rfl) (Nat.le_of_eq rfl) (hb hby at_107) 110 rfl rfl (by decide) (by decide) fun T413 X413 e413 => ?_
        refine own_aload_n X413 hx (hb hby at_110) rfl rfl 111 rfl ?_
        refine own_aload X413 hx (hb hby at_111) rfl rfl 113 rfl ?_
        refine own_aload X413 hx (hb hby at_113) rfl rfl 115 rfl ?_
        refine own_pureV X413 hx hZ hown (own_w hw 10 rfl) (own_w hw 11 rfl) (notFace_of_selects (args := #[]) (mvT hZ (own_w hw 13 rfl))) (own_w hw 13 rfl) (own_w hw 12 rfl) (own_w hw 6 rfl) (own_w hw 14 rfl) (by decide) w_SqlText_Control_ALONE [(.ref w_SqlText_Control_NONE)] [(.ref w_SqlText_Control_WITH_WORK), (.ref w_SqlText_Control_WITH_WORK)] 2 (rm_then_4 l Z a0 hw []  h0 n0 H) (by decide) (by decide) rfl rfl e413 E_w_SqlText_Control_ALONE (by rw [hml]; rfl) (lenOf pd_1 rfl) (Nat.le_of_eq rfl) (hb hby at_115) 118 rfl rfl (by decide) (by decide) fun T415 X415 e415 => ?_
        refine own_pureV X415 hx hZ hown (own_w hw 10 rfl) (own_w hw 11 rfl) (notFace_of_selects (args := #[]) (mvT hZ (own_w hw 13 rfl))) (own_w hw 13 rfl) (own_w hw 12 rfl) (own_w hw 6 rfl) (own_w hw 14 rfl) (by decide) w_SqlText_Control_WITH_WORK [(.ref w_SqlText_Control_WITH_WORK)] [(.ref w_SqlText_Control_WITH_WORK)] 1 (rm_then_8 l Z a0 hw []  h0 n0 H) (by decide) (by decide) rfl rfl e415 E_w_SqlText_Control_WITH_WORK (by rw [hml]; rfl) (lenOf pd_1 rfl) (Nat.le_of_eq rfl) (hb hby at_118) 121 rfl rfl (by decide) (by decide) fun T417 X417 e417 => ?_
        refine own_acmp X417 hx true (hb hby at_121) rfl rfl (decide_eq_true rfl) 124 (by decide) (by decide) ?_
        refine own_iconst X417 hx (hb hby at_124) (1 : Int32) rfl 125 rfl ?_
        refine own_goto X417 hx (hb hby at_125) 129 (by decide) (by decide) ?_
        refine own_istore X417 hx (hb hby at_129) #[.val (.int x0), .val (.int x1), .val (.int x2), .val (.ref w_SqlText_Control_WITH_WORK), .val (.ref w_SqlText_Control_ALONE), .val (.ref w_SqlText_Control_NONE), .val (.ref w_SqlText_Control_WITH_WORK), .val (.int (0 : Int32)), .val (.int (1 : Int32)), .val (.int (1 : Int32)), .val (.int (1 : Int32))] rfl 131 rfl ?_
        refine own_iload X417 hx (hb hby at_131) rfl 133 rfl ?_
        refine own_ifN X417 hx (hb hby at_133) ((if0 _ _).trans (feq (by decide : ¬ ((1 : Int32) = (0 : Int32)))).1) 136 rfl ?_
        refine own_iload X417 hx (hb hby at_136) rfl 138 rfl ?_
        refine own_ifN X417 hx (hb hby at_138) ((if0 _ _).trans (feq (by decide : ¬ ((1 : Int32) = (0 : Int32)))).1) 141 rfl ?_
        refine own_iload X417 hx (hb hby at_141) rfl 143 rfl ?_
        refine own_ifN X417 hx (hb hby at_143) ((if0 _ _).trans (feq (by decide : ¬ ((1 : Int32) = (0 : Int32)))).1) 146 rfl ?_
        refine own_iconst X417 hx (hb hby at_146) (1 : Int32) rfl 147 rfl ?_
        refine own_goto X417 hx (hb hby at_147) 151 (by decide) (by decide) ?_
        exact own_retZ X417 hx hk hret (hb hby at_151) rfl ⟨rfl, Fr.nil _⟩ (by decide) (by decide)
      · skip
        refine own_iload_n X0 hx (hb hby at_0) rfl 1 rfl ?_
        refine own_pureS X0 hx hZ hown (own_w hw 0 rfl) (own_w hw 1 rfl) (own_w hw 2 rfl) (own_w hw 3 rfl) (by decide) [(.int x0)] [] 0 (rm_pick_2 l Z a0 hw [] x0 h0 n0 H q1) (by decide) (by decide) rfl rfl e0 (by rw [hml]; rfl) (lenOf pd_0 rfl) (Nat.le_of_eq rfl) (hb hby at_1) 4 rfl rfl (by decide) (by decide) fun T419 X419 e419 => ?_
        refine own_astore_n X419 hx (hb hby at_4) #[.val (.int x0), .val (.int x1), .val (.int x2), .val (.ref w_SqlText_Control_WITH_WORK), .unset, .unset, .unset, .unset, .unset, .unset, .unset] rfl rfl 5 rfl ?_
        refine own_iload_n X419 hx (hb hby at_5) rfl 6 rfl ?_
        refine own_pureS X419 hx hZ hown (own_w hw 0 rfl) (own_w hw 1 rfl) (own_w hw 2 rfl) (own_w hw 3 rfl) (by decide) [(.int x1)] [] 0 (rm_pick_1 l Z a0 hw [] x1 h0 n0 H q343) (by decide) (by decide) rfl rfl e419 (by rw [hml]; rfl) (lenOf pd_0 rfl) (Nat.le_of_eq rfl) (hb hby at_6) 9 rfl rfl (by decide) (by decide) fun T421 X421 e421 => ?_
        refine own_astore X421 hx (hb hby at_9) #[.val (.int x0), .val (.int x1), .val (.int x2), .val (.ref w_SqlText_Control_WITH_WORK), .val (.ref w_SqlText_Control_ALONE), .unset, .unset, .unset, .unset, .unset, .unset] rfl rfl 11 rfl ?_
        refine own_iload_n X421 hx (hb hby at_11) rfl 12 rfl ?_
        refine own_pureS X421 hx hZ hown (own_w hw 0 rfl) (own_w hw 1 rfl) (own_w hw 2 rfl) (own_w hw 3 rfl) (by decide) [(.int x2)] [] 0 (rm_pick_1 l Z a0 hw [] x2 h0 n0 H q399) (by decide) (by decide) rfl rfl e421 (by rw [hml]; rfl) (lenOf pd_0 rfl) (Nat.le_of_eq rfl) (hb hby at_12) 15 rfl rfl (by decide) (by decide) fun T423 X423 e423 => ?_
        refine own_astore X423 hx (hb hby at_15) #[.val (.int x0), .val (.int x1), .val (.int x2), .val (.ref w_SqlText_Control_WITH_WORK), .val (.ref w_SqlText_Control_ALONE), .val (.ref w_SqlText_Control_ALONE), .unset, .unset, .unset, .unset, .unset] rfl rfl 17 rfl ?_
        refine own_aload_n X423 hx (hb hby at_17) rfl rfl 18 rfl ?_
        refine own_aload X423 hx (hb hby at_18) rfl rfl 20 rfl ?_
        refine own_pureV X423 hx hZ hown (own_w hw 10 rfl) (own_w hw 11 rfl) (notFace_of_selects (args := #[]) (mvT hZ (own_w hw 13 rfl))) (own_w hw 13 rfl) (own_w hw 12 rfl) (own_w hw 6 rfl) (own_w hw 14 rfl) (by decide) w_SqlText_Control_WITH_WORK [(.ref w_SqlText_Control_ALONE)] [] 0 (rm_then_6 l Z a0 hw []  h0 n0 H) (by decide) (by decide) rfl rfl e423 E_w_SqlText_Control_WITH_WORK (by rw [hml]; rfl) (lenOf pd_1 rfl) (Nat.le_of_eq rfl) (hb hby at_20) 23 rfl rfl (by decide) (by decide) fun T425 X425 e425 => ?_
        refine own_astore X425 hx (hb hby at_23) #[.val (.int x0), .val (.int x1), .val (.int x2), .val (.ref w_SqlText_Control_WITH_WORK), .val (.ref w_SqlText_Control_ALONE), .val (.ref w_SqlText_Control_ALONE), .val (.ref w_SqlText_Control_WITH_WORK), .unset, .unset, .unset, .unset] rfl rfl 25 rfl ?_
        refine own_aload_n X425 hx (hb hby at_25) rfl rfl 26 rfl ?_
        refine own_getS X425 hx hZ hown (host := "") (Or.inl (own_w hw 5 rfl)) Via.refl e425 S_w_SqlText_Control_NONE (hb hby at_26) 29 rfl fun T426 X426 e426 => ?_
        refine own_acmp X426 hx false (hb hby at_29) rfl rfl (decide_eq_false fun q => (Ne.symm ne_w_SqlText_Control_NONE_w_SqlText_Control_WITH_WORK) (Value.ref.inj q)) 44 (by decide) (by decide) ?_
        refine own_iconst X426 hx (hb hby at_44) (0 : Int32) rfl 45 rfl ?_
        refine own_istore X426 hx (hb hby at_45) #[.val (.int x0), .val (.int x1), .val (.int x2), .val (.ref w_SqlText_Control_WITH_WORK), .val (.ref w_SqlText_Control_ALONE), .val (.ref w_SqlText_Control_ALONE), .val (.ref w_SqlText_Control_WITH_WORK), .val (.int (0 : Int32)), .unset, .unset, .unset] rfl 47 rfl ?_
        refine own_iload X426 hx (hb hby at_47) rfl 49 rfl ?_
        refine own_ifY X426 hx (hb hby at_49) ((if0 _ _).trans (teq (by decide : (0 : Int32) = (0 : Int32))).1) 70 (by decide) (by decide) ?_
        refine own_aload X426 hx (hb hby at_70) rfl rfl 72 rfl ?_
        refine own_getS X426 hx hZ hown (host := "") (Or.inl (own_w hw 8 rfl)) Via.refl e426 S_w_SqlText_Control_WITH_WORK (hb hby at_72) 75 rfl fun T427 X427 e427 => ?_
        refine own_acmp X427 hx true (hb hby at_75) rfl rfl (decide_eq_true rfl) 78 (by decide) (by decide) ?_
        refine own_iconst X427 hx (hb hby at_78) (1 : Int32) rfl 79 rfl ?_
        refine own_goto X427 hx (hb hby at_79) 83 (by decide) (by decide) ?_
        refine own_istore X427 hx (hb hby at_83) #[.val (.int x0), .val (.int x1), .val (.int x2), .val (.ref w_SqlText_Control_WITH_WORK), .val (.ref w_SqlText_Control_ALONE), .val (.ref w_SqlText_Control_ALONE), .val (.ref w_SqlText_Control_WITH_WORK), .val (.int (0 : Int32)), .val (.int (1 : Int32)), .unset, .unset] rfl 85 rfl ?_
        refine own_aload X427 hx (hb hby at_85) rfl rfl 87 rfl ?_
        refine own_aload X427 hx (hb hby at_87) rfl rfl 89 rfl ?_
        refine own_aload_n X427 hx (hb hby at_89) rfl rfl 90 rfl ?_
        refine own_pureV X427 hx hZ hown (own_w hw 10 rfl) (own_w hw 11 rfl) (notFace_of_selects (args := #[]) (mvT hZ (own_w hw 13 rfl))) (own_w hw 13 rfl) (own_w hw 12 rfl) (own_w hw 6 rfl) (own_w hw 14 rfl) (by decide) w_SqlText_Control_ALONE [(.ref w_SqlText_Control_WITH_WORK)] [(.ref w_SqlText_Control_WITH_WORK)] 1 (rm_then_9 l Z a0 hw []  h0 n0 H) (by decide) (by decide) rfl rfl e427 E_w_SqlText_Control_ALONE (by rw [hml]; rfl) (lenOf pd_1 rfl) (Nat.le_of_eq rfl) (hb hby at_90) 93 rfl rfl (by decide) (by decide) fun T429 X429 e429 => ?_
        refine own_acmp X429 hx true (hb hby at_93) rfl rfl (decide_eq_true rfl) 96 (by decide) (by decide) ?_
        refine own_iconst X429 hx (hb hby at_96) (1 : Int32) rfl 97 rfl ?_
        refine own_goto X429 hx (hb hby at_97) 101 (by decide) (by decide) ?_
        refine own_istore X429 hx (hb hby at_101) #[.val (.int x0), .val (.int x1), .val (.int x2), .val (.ref w_SqlText_Control_WITH_WORK), .val (.ref w_SqlText_Control_ALONE), .val (.ref w_SqlText_Control_ALONE), .val (.ref w_SqlText_Control_WITH_WORK), .val (.int (0 : Int32)), .val (.int (1 : Int32)), .val (.int (1 : Int32)), .unset] rfl 103 rfl ?_
        refine own_aload X429 hx (hb hby at_103) rfl rfl 105 rfl ?_
        refine own_aload X429 hx (hb hby at_105) rfl rfl 107 rfl ?_
        refine own_pureV X429 hx hZ hown (own_w hw 10 rfl) (own_w hw 11 rfl) (notFace_of_selects (args := #[]) (mvT hZ (own_w hw 13 rfl))) (own_w hw 13 rfl) (own_w hw 12 rfl) (own_w hw 6 rfl) (own_w hw 14 rfl) (by decide) w_SqlText_Control_WITH_WORK [(.ref w_SqlText_Control_ALONE)] [] 0 (rm_then_6 l Z a0 hw []  h0 n0 H) (by decide) (by decide) rfl rfl e429 E_w_SqlText_Control_WITH_WORK (by rw [hml]; rfl) (lenOf pd_1 rfl) (Nat.le_of_eq rfl) (hb hby at_107) 110 rfl rfl (by decide) (by decide) fun T431 X431 e431 => ?_
        refine own_aload_n X431 hx (hb hby at_110) rfl rfl 111 rfl ?_
        refine own_aload X431 hx (hb hby at_111) rfl rfl 113 rfl ?_
        refine own_aload X431 hx (hb hby at_113) rfl rfl 115 rfl ?_
        refine own_pureV X431 hx hZ hown (own_w hw 10 rfl) (own_w hw 11 rfl) (notFace_of_selects (args := #[]) (mvT hZ (own_w hw 13 rfl))) (own_w hw 13 rfl) (own_w hw 12 rfl) (own_w hw 6 rfl) (own_w hw 14 rfl) (by decide) w_SqlText_Control_ALONE [(.ref w_SqlText_Control_ALONE)] [(.ref w_SqlText_Control_WITH_WORK), (.ref w_SqlText_Control_WITH_WORK)] 2 (rm_then_7 l Z a0 hw []  h0 n0 H) (by decide) (by decide) rfl rfl e431 E_w_SqlText_Control_ALONE (by rw [hml]; rfl) (lenOf pd_1 rfl) (Nat.le_of_eq rfl) (hb hby at_115) 118 rfl rfl (by decide) (by decide) fun T433 X433 e433 => ?_
        refine own_pureV X433 hx hZ hown (own_w hw 10 rfl) (own_w hw 11 rfl) (notFace_of_selects (args := #[]) (mvT hZ (own_w hw 13 rfl))) (own_w hw 13 rfl) (own_w hw 12 rfl) (own_w hw 6 rfl) (own_w hw 14 rfl) (by decide) w_SqlText_Control_WITH_WORK [(.ref w_SqlText_Control_WITH_WORK)] [(.ref w_SqlText_Control_WITH_WORK)] 1 (rm_then_8 l Z a0 hw []  h0 n0 H) (by decide) (by decide) rfl rfl e433 E_w_SqlText_Control_WITH_WORK (by rw [hml]; rfl) (lenOf pd_1 rfl) (Nat.le_of_eq rfl) (hb hby at_118) 121 rfl rfl (by decide) (by decide) fun T435 X435 e435 => ?_
        refine own_acmp X435 hx true (hb hby at_121) rfl rfl (decide_eq_true rfl) 124 (by decide) (by decide) ?_
        refine own_iconst X435 hx (hb hby at_124) (1 : Int32) rfl 125 rfl ?_
        refine own_goto X435 hx (hb hby at_125) 129 (by decide) (by decide) ?_
        refine own_istore X435 hx (hb hby at_129) #[.val (.int x0), .val (.int x1), .val (.int x2), .val (.ref w_SqlText_Control_WITH_WORK), .val (.ref w_SqlText_Control_ALONE), .val (.ref w_SqlText_Control_ALONE), .val (.ref w_SqlText_Control_WITH_WORK), .val (.int (0 : Int32)), .val (.int (1 : Int32)), .val (.int (1 : Int32)), .val (.int (1 : Int32))] rfl 131 rfl ?_
        refine own_iload X435 hx (hb hby at_131) rfl 133 rfl ?_
        refine own_ifN X435 hx (hb hby at_133) ((if0 _ _).trans (feq (by decide : ¬ ((1 : Int32) = (0 : Int32)))).1) 136 rfl ?_
        refine own_iload X435 hx (hb hby at_136) rfl 138 rfl ?_
        refine own_ifN X435 hx (hb hby at_138) ((if0 _ _).trans (feq (by decide : ¬ ((1 : Int32) = (0 : Int32)))).1) 141 rfl ?_
        refine own_iload X435 hx (hb hby at_141) rfl 143 rfl ?_
        refine own_ifN X435 hx (hb hby at_143) ((if0 _ _).trans (feq (by decide : ¬ ((1 : Int32) = (0 : Int32)))).1) 146 rfl ?_
        refine own_iconst X435 hx (hb hby at_146) (1 : Int32) rfl 147 rfl ?_
        refine own_goto X435 hx (hb hby at_147) 151 (by decide) (by decide) ?_
        exact own_retZ X435 hx hk hret (hb hby at_151) rfl ⟨rfl, Fr.nil _⟩ (by decide) (by decide)
      · skip
        refine own_iload_n X0 hx (hb hby at_0) rfl 1 rfl ?_
        refine own_pureS X0 hx hZ hown (own_w hw 0 rfl) (own_w hw 1 rfl) (own_w hw 2 rfl) (own_w hw 3 rfl) (by decide) [(.int x0)] [] 0 (rm_pick_2 l Z a0 hw [] x0 h0 n0 H q1) (by decide) (by decide) rfl rfl e0 (by rw [hml]; rfl) (lenOf pd_0 rfl) (Nat.le_of_eq rfl) (hb hby at_1) 4 rfl rfl (by decide) (by decide) fun T437 X437 e437 => ?_
        refine own_astore_n X437 hx (hb hby at_4) #[.val (.int x0), .val (.int x1), .val (.int x2), .val (.ref w_SqlText_Control_WITH_WORK), .unset, .unset, .unset, .unset, .unset, .unset, .unset] rfl rfl 5 rfl ?_
        refine own_iload_n X437 hx (hb hby at_5) rfl 6 rfl ?_
        refine own_pureS X437 hx hZ hown (own_w hw 0 rfl) (own_w hw 1 rfl) (own_w hw 2 rfl) (own_w hw 3 rfl) (by decide) [(.int x1)] [] 0 (rm_pick_1 l Z a0 hw [] x1 h0 n0 H q343) (by decide) (by decide) rfl rfl e437 (by rw [hml]; rfl) (lenOf pd_0 rfl) (Nat.le_of_eq rfl) (hb hby at_6) 9 rfl rfl (by decide) (by decide) fun T439 X439 e439 => ?_
        refine own_astore X439 hx (hb hby at_9) #[.val (.int x0), .val (.int x1), .val (.int x2), .val (.ref w_SqlText_Control_WITH_WORK), .val (.ref w_SqlText_Control_ALONE), .unset, .unset, .unset, .unset, .unset, .unset] rfl rfl 11 rfl ?_
        refine own_iload_n X439 hx (hb hby at_11) rfl 12 rfl ?_
        refine own_pureS X439 hx hZ hown (own_w hw 0 rfl) (own_w hw 1 rfl) (own_w hw 2 rfl) (own_w hw 3 rfl) (by decide) [(.int x2)] [] 0 (rm_pick_2 l Z a0 hw [] x2 h0 n0 H q399) (by decide) (by decide) rfl rfl e439 (by rw [hml]; rfl) (lenOf pd_0 rfl) (Nat.le_of_eq rfl) (hb hby at_12) 15 rfl rfl (by decide) (by decide) fun T441 X441 e441 => ?_
        refine own_astore X441 hx (hb hby at_15) #[.val (.int x0), .val (.int x1), .val (.int x2), .val (.ref w_SqlText_Control_WITH_WORK), .val (.ref w_SqlText_Control_ALONE), .val (.ref w_SqlText_Control_WITH_WORK), .unset, .unset, .unset, .unset, .unset] rfl rfl 17 rfl ?_
        refine own_aload_n X441 hx (hb hby at_17) rfl rfl 18 rfl ?_
        refine own_aload X441 hx (hb hby at_18) rfl rfl 20 rfl ?_
        refine own_pureV X441 hx hZ hown (own_w hw 10 rfl) (own_w hw 11 rfl) (notFace_of_selects (args := #[]) (mvT hZ (own_w hw 13 rfl))) (own_w hw 13 rfl) (own_w hw 12 rfl) (own_w hw 6 rfl) (own_w hw 14 rfl) (by decide) w_SqlText_Control_WITH_WORK [(.ref w_SqlText_Control_ALONE)] [] 0 (rm_then_6 l Z a0 hw []  h0 n0 H) (by decide) (by decide) rfl rfl e441 E_w_SqlText_Control_WITH_WORK (by rw [hml]; rfl) (lenOf pd_1 rfl) (Nat.le_of_eq rfl) (hb hby at_20) 23 rfl rfl (by decide) (by decide) fun T443 X443 e443 => ?_
        refine own_astore X443 hx (hb hby at_23) #[.val (.int x0), .val (.int x1), .val (.int x2), .val (.ref w_SqlText_Control_WITH_WORK), .val (.ref w_SqlText_Control_ALONE), .val (.ref w_SqlText_Control_WITH_WORK), .val (.ref w_SqlText_Control_WITH_WORK), .unset, .unset, .unset, .unset] rfl rfl 25 rfl ?_
        refine own_aload_n X443 hx (hb hby at_25) rfl rfl 26 rfl ?_
        refine own_getS X443 hx hZ hown (host := "") (Or.inl (own_w hw 5 rfl)) Via.refl e443 S_w_SqlText_Control_NONE (hb hby at_26) 29 rfl fun T444 X444 e444 => ?_
        refine own_acmp X444 hx false (hb hby at_29) rfl rfl (decide_eq_false fun q => (Ne.symm ne_w_SqlText_Control_NONE_w_SqlText_Control_WITH_WORK) (Value.ref.inj q)) 44 (by decide) (by decide) ?_
        refine own_iconst X444 hx (hb hby at_44) (0 : Int32) rfl 45 rfl ?_
        refine own_istore X444 hx (hb hby at_45) #[.val (.int x0), .val (.int x1), .val (.int x2), .val (.ref w_SqlText_Control_WITH_WORK), .val (.ref w_SqlText_Control_ALONE), .val (.ref w_SqlText_Control_WITH_WORK), .val (.ref w_SqlText_Control_WITH_WORK), .val (.int (0 : Int32)), .unset, .unset, .unset] rfl 47 rfl ?_
        refine own_iload X444 hx (hb hby at_47) rfl 49 rfl ?_
        refine own_ifY X444 hx (hb hby at_49) ((if0 _ _).trans (teq (by decide : (0 : Int32) = (0 : Int32))).1) 70 (by decide) (by decide) ?_
        refine own_aload X444 hx (hb hby at_70) rfl rfl 72 rfl ?_
        refine own_getS X444 hx hZ hown (host := "") (Or.inl (own_w hw 8 rfl)) Via.refl e444 S_w_SqlText_Control_WITH_WORK (hb hby at_72) 75 rfl fun T445 X445 e445 => ?_
        refine own_acmp X445 hx true (hb hby at_75) rfl rfl (decide_eq_true rfl) 78 (by decide) (by decide) ?_
        refine own_iconst X445 hx (hb hby at_78) (1 : Int32) rfl 79 rfl ?_
        refine own_goto X445 hx (hb hby at_79) 83 (by decide) (by decide) ?_
        refine own_istore X445 hx (hb hby at_83) #[.val (.int x0), .val (.int x1), .val (.int x2), .val (.ref w_SqlText_Control_WITH_WORK), .val (.ref w_SqlText_Control_ALONE), .val (.ref w_SqlText_Control_WITH_WORK), .val (.ref w_SqlText_Control_WITH_WORK), .val (.int (0 : Int32)), .val (.int (1 : Int32)), .unset, .unset] rfl 85 rfl ?_
        refine own_aload X445 hx (hb hby at_85) rfl rfl 87 rfl ?_
        refine own_aload X445 hx (hb hby at_87) rfl rfl 89 rfl ?_
        refine own_aload_n X445 hx (hb hby at_89) rfl rfl 90 rfl ?_
        refine own_pureV X445 hx hZ hown (own_w hw 10 rfl) (own_w hw 11 rfl) (notFace_of_selects (args := #[]) (mvT hZ (own_w hw 13 rfl))) (own_w hw 13 rfl) (own_w hw 12 rfl) (own_w hw 6 rfl) (own_w hw 14 rfl) (by decide) w_SqlText_Control_ALONE [(.ref w_SqlText_Control_WITH_WORK)] [(.ref w_SqlText_Control_WITH_WORK)] 1 (rm_then_9 l Z a0 hw []  h0 n0 H) (by decide) (by decide) rfl rfl e445 E_w_SqlText_Control_ALONE (by rw [hml]; rfl) (lenOf pd_1 rfl) (Nat.le_of_eq rfl) (hb hby at_90) 93 rfl rfl (by decide) (by decide) fun T447 X447 e447 => ?_
        refine own_acmp X447 hx true (hb hby at_93) rfl rfl (decide_eq_true rfl) 96 (by decide) (by decide) ?_
        refine own_iconst X447 hx (hb hby at_96) (1 : Int32) rfl 97 rfl ?_
        refine own_goto X447 hx (hb hby at_97) 101 (by decide) (by decide) ?_
        refine own_istore X447 hx (hb hby at_101) #[.val (.int x0), .val (.int x1), .val (.int x2), .val (.ref w_SqlText_Control_WITH_WORK), .val (.ref w_SqlText_Control_ALONE), .val (.ref w_SqlText_Control_WITH_WORK), .val (.ref w_SqlText_Control_WITH_WORK), .val (.int (0 : Int32)), .val (.int (1 : Int32)), .val (.int (1 : Int32)), .unset] rfl 103 rfl ?_
        refine own_aload X447 hx (hb hby at_103) rfl rfl 105 rfl ?_
        refine own_aload X447 hx (hb hby at_105) rfl rfl 107 rfl ?_
        refine own_pureV X447 hx hZ hown (own_w hw 10 rfl) (own_w hw 11 rfl) (notFace_of_selects (args := #[]) (mvT hZ (own_w hw 13 rfl))) (own_w hw 13 rfl) (own_w hw 12 rfl) (own_w hw 6 rfl) (own_w hw 14 rfl) (by decide) w_SqlText_Control_WITH_WORK [(.ref w_SqlText_Control_WITH_WORK)] [] 0 (rm_then_8 l Z a0 hw []  h0 n0 H) (by decide) (by decide) rfl rfl e447 E_w_SqlText_Control_WITH_WORK (by rw [hml]; rfl) (lenOf pd_1 rfl) (Nat.le_of_eq rfl) (hb hby at_107) 110 rfl rfl (by decide) (by decide) fun T449 X449 e449 => ?_
        refine own_aload_n X449 hx (hb hby at_110) rfl rfl 111 rfl ?_
        refine own_aload X449 hx (hb hby at_111) rfl rfl 113 rfl ?_
        refine own_aload X449 hx (hb hby at_113) rfl rfl 115 rfl ?_
        refine own_pureV X449 hx hZ hown (own_w hw 10 rfl) (own_w hw 11 rfl) (notFace_of_selects (args := #[]) (mvT hZ (own_w hw 13 rfl))) (own_w hw 13 rfl) (own_w hw 12 rfl) (own_w hw 6 rfl) (own_w hw 14 rfl) (by decide) w_SqlText_Control_ALONE [(.ref w_SqlText_Control_WITH_WORK)] [(.ref w_SqlText_Control_WITH_WORK), (.ref w_SqlText_Control_WITH_WORK)] 2 (rm_then_9 l Z a0 hw []  h0 n0 H) (by decide) (by decide) rfl rfl e449 E_w_SqlText_Control_ALONE (by rw [hml]; rfl) (lenOf pd_1 rfl) (Nat.le_of_eq rfl) (hb hby at_115) 118 rfl rfl (by decide) (by decide) fun T451 X451 e451 => ?_
        refine own_pureV X451 hx hZ hown (own_w hw 10 rfl) (own_w hw 11 rfl) (notFace_of_selects (args := #[]) (mvT hZ (own_w hw 13 rfl))) (own_w hw 13 rfl) (own_w hw 12 rfl) (own_w hw 6 rfl) (own_w hw 14 rfl) (by decide) w_SqlText_Control_WITH_WORK [(.ref w_SqlText_Control_WITH_WORK)] [(.ref w_SqlText_Control_WITH_WORK)] 1 (rm_then_8 l Z a0 hw []  h0 n0 H) (by decide) (by decide) rfl rfl e451 E_w_SqlText_Control_WITH_WORK (by rw [hml]; rfl) (lenOf pd_1 rfl) (Nat.le_of_eq rfl) (hb hby at_118) 121 rfl rfl (by decide) (by decide) fun T453 X453 e453 => ?_
        refine own_acmp X453 hx true (hb hby at_121) rfl rfl (decide_eq_true rfl) 124 (by decide) (by decide) ?_
        refine own_iconst X453 hx (hb hby at_124) (1 : Int32) rfl 125 rfl ?_
        refine own_goto X453 hx (hb hby at_125) 129 (by decide) (by decide) ?_
        refine own_istore X453 hx (hb hby at_129) #[.val (.int x0), .val (.int x1), .val (.int x2), .val (.ref w_SqlText_Control_WITH_WORK), .val (.ref w_SqlText_Control_ALONE), .val (.ref w_SqlText_Control_WITH_WORK), .val (.ref w_SqlText_Control_WITH_WORK), .val (.int (0 : Int32)), .val (.int (1 : Int32)), .val (.int (1 : Int32)), .val (.int (1 : Int32))] rfl 131 rfl ?_
        refine own_iload X453 hx (hb hby at_131) rfl 133 rfl ?_
        refine own_ifN X453 hx (hb hby at_133) ((if0 _ _).trans (feq (by decide : ¬ ((1 : Int32) = (0 : Int32)))).1) 136 rfl ?_
        refine own_iload X453 hx (hb hby at_136) rfl 138 rfl ?_
        refine own_ifN X453 hx (hb hby at_138) ((if0 _ _).trans (feq (by decide : ¬ ((1 : Int32) = (0 : Int32)))).1) 141 rfl ?_
        refine own_iload X453 hx (hb hby at_141) rfl 143 rfl ?_
        refine own_ifN X453 hx (hb hby at_143) ((if0 _ _).trans (feq (by decide : ¬ ((1 : Int32) = (0 : Int32)))).1) 146 rfl ?_
        refine own_iconst X453 hx (hb hby at_146) (1 : Int32) rfl 147 rfl ?_
        refine own_goto X453 hx (hb hby at_147) 151 (by decide) (by decide) ?_
        exact own_retZ X453 hx hk hret (hb hby at_151) rfl ⟨rfl, Fr.nil _⟩ (by decide) (by decide)
    · skip
      rcases own_mod3 x2 with q454 | q454 | q454
      · skip
        refine own_iload_n X0 hx (hb hby at_0) rfl 1 rfl ?_
        refine own_pureS X0 hx hZ hown (own_w hw 0 rfl) (own_w hw 1 rfl) (own_w hw 2 rfl) (own_w hw 3 rfl) (by decide) [(.int x0)] [] 0 (rm_pick_2 l Z a0 hw [] x0 h0 n0 H q1) (by decide) (by decide) rfl rfl e0 (by rw [hml]; rfl) (lenOf pd_0 rfl) (Nat.le_of_eq rfl) (hb hby at_1) 4 rfl rfl (by decide) (by decide) fun T456 X456 e456 => ?_
        refine own_astore_n X456 hx (hb hby at_4) #[.val (.int x0), .val (.int x1), .val (.int x2), .val (.ref w_SqlText_Control_WITH_WORK), .unset, .unset, .unset, .unset, .unset, .unset, .unset] rfl rfl 5 rfl ?_
        refine own_iload_n X456 hx (hb hby at_5) rfl 6 rfl ?_
        refine own_pureS X456 hx hZ hown (own_w hw 0 rfl) (own_w hw 1 rfl) (own_w hw 2 rfl) (own_w hw 3 rfl) (by decide) [(.int x1)] [] 0 (rm_pick_2 l Z a0 hw [] x1 h0 n0 H q343) (by decide) (by decide) rfl rfl e456 (by rw [hml]; rfl) (lenOf pd_0 rfl) (Nat.le_of_eq rfl) (hb hby at_6) 9 rfl rfl (by decide) (by decide) fun T458 X458 e458 => ?_
        refine own_astore X458 hx (hb hby at_9) #[.val (.int x0), .val (.int x1), .val (.int x2), .val (.ref w_SqlText_Control_WITH_WORK), .val (.ref w_SqlText_Control_WITH_WORK), .unset, .unset, .unset, .unset, .unset, .unset] rfl rfl 11 rfl ?_
        refine own_iload_n X458 hx (hb hby at_11) rfl 12 rfl ?_
        refine own_pureS X458 hx hZ hown (own_w hw 0 rfl) (own_w hw 1 rfl) (own_w hw 2 rfl) (own_w hw 3 rfl) (by decide) [(.int x2)] [] 0 (rm_pick_0 l Z a0 hw [] x2 h0 n0 H q454) (by decide) (by decide) rfl rfl e458 (by rw [hml]; rfl) (lenOf pd_0 rfl) (Nat.le_of_eq rfl) (hb hby at_12) 15 rfl rfl (by decide) (by decide) fun T460 X460 e460 => ?_
        refine own_astore X460 hx (hb hby at_15) #[.val (.int x0), .val (.int x1), .val (.int x2), .val (.ref w_SqlText_Control_WITH_WORK), .val (.ref w_SqlText_Control_WITH_WORK), .val (.ref w_SqlText_Control_NONE), .unset, .unset, .unset, .unset, .unset] rfl rfl 17 rfl ?_
        refine own_aload_n X460 hx (hb hby at_17) rfl rfl 18 rfl ?_
        refine own_aload X460 hx (hb hby at_18) rfl rfl 20 rfl ?_
        refine own_pureV X460 hx hZ hown (own_w hw 10 rfl) (own_w hw 11 rfl) (notFace_of_selects (args := #[]) (mvT hZ (own_w hw 13 rfl))) (own_w hw 13 rfl) (own_w hw 12 rfl) (own_w hw 6 rfl) (own_w hw 14 rfl) (by decide) w_SqlText_Control_WITH_WORK [(.ref w_SqlText_Control_WITH_WORK)] [] 0 (rm_then_8 l Z a0 hw []  h0 n0 H) (by decide) (by decide) rfl rfl e460 E_w_SqlText_Control_WITH_WORK (by rw [hml]; rfl) (lenOf pd_1 rfl) (Nat.le_of_eq rfl) (hb hby at_20) 23 rfl rfl (by decide) (by decide) fun T462 X462 e462 => ?_
        refine own_astore X462 hx (hb hby at_23) #[.val (.int x0), .val (.int x1), .val (.int x2), .val (.ref w_SqlText_Control_WITH_WORK), .val (.ref w_SqlText_Control_WITH_WORK), .val (.ref w_SqlText_Control_NONE), .val (.ref w_SqlText_Control_WITH_WORK), .unset, .unset, .unset, .unset] rfl rfl 25 rfl ?_
        refine own_aload_n X462 hx (hb hby at_25) rfl rfl 26 rfl ?_
        refine own_getS X462 hx hZ hown (host := "") (Or.inl (own_w hw 5 rfl)) Via.refl e462 S_w_SqlText_Control_NONE (hb hby at_26) 29 rfl fun T463 X463 e463 => ?_
        refine own_acmp X463 hx false (hb hby at_29) rfl rfl (decide_eq_false fun q => (Ne.symm ne_w_SqlText_Control_NONE_w_SqlText_Control_WITH_WORK) (Value.ref.inj q)) 44 (by decide) (by decide) ?_
        refine own_iconst X463 hx (hb hby at_44) (0 : Int32) rfl 45 rfl ?_
        refine own_istore X463 hx (hb hby at_45) #[.val (.int x0), .val (.int x1), .val (.int x2), .val (.ref w_SqlText_Control_WITH_WORK), .val (.ref w_SqlText_Control_WITH_WORK), .val (.ref w_SqlText_Control_NONE), .val (.ref w_SqlText_Control_WITH_WORK), .val (.int (0 : Int32)), .unset, .unset, .unset] rfl 47 rfl ?_
        refine own_iload X463 hx (hb hby at_47) rfl 49 rfl ?_
        refine own_ifY X463 hx (hb hby at_49) ((if0 _ _).trans (teq (by decide : (0 : Int32) = (0 : Int32))).1) 70 (by decide) (by decide) ?_
        refine own_aload X463 hx (hb hby at_70) rfl rfl 72 rfl ?_
        refine own_getS X463 hx hZ hown (host := "") (Or.inl (own_w hw 8 rfl)) Via.refl e463 S_w_SqlText_Control_WITH_WORK (hb hby at_72) 75 rfl fun T464 X464 e464 => ?_
        refine own_acmp X464 hx true (hb hby at_75) rfl rfl (decide_eq_true rfl) 78 (by decide) (by decide) ?_
        refine own_iconst X464 hx (hb hby at_78) (1 : Int32) rfl 79 rfl ?_
        refine own_goto X464 hx (hb hby at_79) 83 (by decide) (by decide) ?_
        refine own_istore X464 hx (hb hby at_83) #[.val (.int x0), .val (.int x1), .val (.int x2), .val (.ref w_SqlText_Control_WITH_WORK), .val (.ref w_SqlText_Control_WITH_WORK), .val (.ref w_SqlText_Control_NONE), .val (.ref w_SqlText_Control_WITH_WORK), .val (.int (0 : Int32)), .val (.int (1 : Int32)), .unset, .unset] rfl 85 rfl ?_
        refine own_aload X464 hx (hb hby at_85) rfl rfl 87 rfl ?_
        refine own_aload X464 hx (hb hby at_87) rfl rfl 89 rfl ?_
        refine own_aload_n X464 hx (hb hby at_89) rfl rfl 90 rfl ?_
        refine own_pureV X464 hx hZ hown (own_w hw 10 rfl) (own_w hw 11 rfl) (notFace_of_selects (args := #[]) (mvT hZ (own_w hw 13 rfl))) (own_w hw 13 rfl) (own_w hw 12 rfl) (own_w hw 6 rfl) (own_w hw 14 rfl) (by decide) w_SqlText_Control_WITH_WORK [(.ref w_SqlText_Control_WITH_WORK)] [(.ref w_SqlText_Control_WITH_WORK)] 1 (rm_then_8 l Z a0 hw []  h0 n0 H) (by decide) (by decide) rfl rfl e464 E_w_SqlText_Control_WITH_WORK (by rw [hml]; rfl) (lenOf pd_1 rfl) (Nat.le_of_eq rfl) (hb hby at_90) 93 rfl rfl (by decide) (by decide) fun T466 X466 e466 => ?_
        refine own_acmp X466 hx true (hb hby at_93) rfl rfl (decide_eq_true rfl) 96 (by decide) (by decide) ?_
        refine own_iconst X466 hx (hb hby at_96) (1 : Int32) rfl 97 rfl ?_
        refine own_goto X466 hx (hb hby at_97) 101 (by decide) (by decide) ?_
        refine own_istore X466 hx (hb hby at_101) #[.val (.int x0), .val (.int x1), .val (.int x2), .val (.ref w_SqlText_Control_WITH_WORK), .val (.ref w_SqlText_Control_WITH_WORK), .val (.ref w_SqlText_Control_NONE), .val (.ref w_SqlText_Control_WITH_WORK), .val (.int (0 : Int32)), .val (.int (1 : Int32)), .val (.int (1 : Int32)), .unset] rfl 103 rfl ?_
        refine own_aload X466 hx (hb hby at_103) rfl rfl 105 rfl ?_
        refine own_aload X466 hx (hb hby at_105) rfl rfl 107 rfl ?_
        refine own_pureV X466 hx hZ hown (own_w hw 10 rfl) (own_w hw 11 rfl) (notFace_of_selects (args := #[]) (mvT hZ (own_w hw 13 rfl))) (own_w hw 13 rfl) (own_w hw 12 rfl) (own_w hw 6 rfl) (own_w hw 14 rfl) (by decide) w_SqlText_Control_WITH_WORK [(.ref w_SqlText_Control_NONE)] [] 0 (rm_then_5 l Z a0 hw []  h0 n0 H) (by decide) (by decide) rfl rfl e466 E_w_SqlText_Control_WITH_WORK (by rw [hml]; rfl) (lenOf pd_1 rfl) (Nat.le_of_eq rfl) (hb hby at_107) 110 rfl rfl (by decide) (by decide) fun T468 X468 e468 => ?_
        refine own_aload_n X468 hx (hb hby at_110) rfl rfl 111 rfl ?_
        refine own_aload X468 hx (hb hby at_111) rfl rfl 113 rfl ?_
        refine own_aload X468 hx (hb hby at_113) rfl rfl 115 rfl ?_
        refine own_pureV X468 hx hZ hown (own_w hw 10 rfl) (own_w hw 11 rfl) (notFace_of_selects (args := #[]) (mvT hZ (own_w hw 13 rfl))) (own_w hw 13 rfl) (own_w hw 12 rfl) (own_w hw 6 rfl) (own_w hw 14 rfl) (by decide) w_SqlText_Control_WITH_WORK [(.ref w_SqlText_Control_NONE)] [(.ref w_SqlText_Control_WITH_WORK), (.ref w_SqlText_Control_WITH_WORK)] 2 (rm_then_5 l Z a0 hw []  h0 n0 H) (by decide) (by decide) rfl rfl e468 E_w_SqlText_Control_WITH_WORK (by rw [hml]; rfl) (lenOf pd_1 rfl) (Nat.le_of_eq rfl) (hb hby at_115) 118 rfl rfl (by decide) (by decide) fun T470 X470 e470 => ?_
        refine own_pureV X470 hx hZ hown (own_w hw 10 rfl) (own_w hw 11 rfl) (notFace_of_selects (args := #[]) (mvT hZ (own_w hw 13 rfl))) (own_w hw 13 rfl) (own_w hw 12 rfl) (own_w hw 6 rfl) (own_w hw 14 rfl) (by decide) w_SqlText_Control_WITH_WORK [(.ref w_SqlText_Control_WITH_WORK)] [(.ref w_SqlText_Control_WITH_WORK)] 1 (rm_then_8 l Z a0 hw []  h0 n0 H) (by decide) (by decide) rfl rfl e470 E_w_SqlText_Control_WITH_WORK (by rw [hml]; rfl) (lenOf pd_1 rfl) (Nat.le_of_eq rfl) (hb hby at_118) 121 rfl rfl (by decide) (by decide) fun T472 X472 e472 => ?_
        refine own_acmp X472 hx true (hb hby at_121) rfl rfl (decide_eq_true rfl) 124 (by decide) (by decide) ?_
        refine own_iconst X472 hx (hb hby at_124) (1 : Int32) rfl 125 rfl ?_
        refine own_goto X472 hx (hb hby at_125) 129 (by decide) (by decide) ?_
        refine own_istore X472 hx (hb hby at_129) #[.val (.int x0), .val (.int x1), .val (.int x2), .val (.ref w_SqlText_Control_WITH_WORK), .val (.ref w_SqlText_Control_WITH_WORK), .val (.ref w_SqlText_Control_NONE), .val (.ref w_SqlText_Control_WITH_WORK), .val (.int (0 : Int32)), .val (.int (1 : Int32)), .val (.int (1 : Int32)), .val (.int (1 : Int32))] rfl 131 rfl ?_
        refine own_iload X472 hx (hb hby at_131) rfl 133 rfl ?_
        refine own_ifN X472 hx (hb hby at_133) ((if0 _ _).trans (feq (by decide : ¬ ((1 : Int32) = (0 : Int32)))).1) 136 rfl ?_
        refine own_iload X472 hx (hb hby at_136) rfl 138 rfl ?_
        refine own_ifN X472 hx (hb hby at_138) ((if0 _ _).trans (feq (by decide : ¬ ((1 : Int32) = (0 : Int32)))).1) 141 rfl ?_
        refine own_iload X472 hx (hb hby at_141) rfl 143 rfl ?_
        refine own_ifN X472 hx (hb hby at_143) ((if0 _ _).trans (feq (by decide : ¬ ((1 : Int32) = (0 : Int32)))).1) 146 rfl ?_
        refine own_iconst X472 hx (hb hby at_146) (1 : Int32) rfl 147 rfl ?_
        refine own_goto X472 hx (hb hby at_147) 151 (by decide) (by decide) ?_
        exact own_retZ X472 hx hk hret (hb hby at_151) rfl ⟨rfl, Fr.nil _⟩ (by decide) (by decide)
      · skip
        refine own_iload_n X0 hx (hb hby at_0) rfl 1 rfl ?_
        refine own_pureS X0 hx hZ hown (own_w hw 0 rfl) (own_w hw 1 rfl) (own_w hw 2 rfl) (own_w hw 3 rfl) (by decide) [(.int x0)] [] 0 (rm_pick_2 l Z a0 hw [] x0 h0 n0 H q1) (by decide) (by decide) rfl rfl e0 (by rw [hml]; rfl) (lenOf pd_0 rfl) (Nat.le_of_eq rfl) (hb hby at_1) 4 rfl rfl (by decide) (by decide) fun T474 X474 e474 => ?_
        refine own_astore_n X474 hx (hb hby at_4) #[.val (.int x0), .val (.int x1), .val (.int x2), .val (.ref w_SqlText_Control_WITH_WORK), .unset, .unset, .unset, .unset, .unset, .unset, .unset] rfl rfl 5 rfl ?_
        refine own_iload_n X474 hx (hb hby at_5) rfl 6 rfl ?_
        refine own_pureS X474 hx hZ hown (own_w hw 0 rfl) (own_w hw 1 rfl) (own_w hw 2 rfl) (own_w hw 3 rfl) (by decide) [(.int x1)] [] 0 (rm_pick_2 l Z a0 hw [] x1 h0 n0 H q343) (by decide) (by decide) rfl rfl e474 (by rw [hml]; rfl) (lenOf pd_0 rfl) (Nat.le_of_eq rfl) (hb hby at_6) 9 rfl rfl (by decide) (by decide) fun T476 X476 e476 => ?_
        refine own_astore X476 hx (hb hby at_9) #[.val (.int x0), .val (.int x1), .val (.int x2), .val (.ref w_SqlText_Control_WITH_WORK), .val (.ref w_SqlText_Control_WITH_WORK), .unset, .unset, .unset, .unset, .unset, .unset] rfl rfl 11 rfl ?_
        refine own_iload_n X476 hx (hb hby at_11) rfl 12 rfl ?_
        refine own_pureS X476 hx hZ hown (own_w hw 0 rfl) (own_w hw 1 rfl) (own_w hw 2 rfl) (own_w hw 3 rfl) (by decide) [(.int x2)] [] 0 (rm_pick_1 l Z a0 hw [] x2 h0 n0 H q454) (by decide) (by decide) rfl rfl e476 (by rw [hml]; rfl) (lenOf pd_0 rfl) (Nat.le_of_eq rfl) (hb hby at_12) 15 rfl rfl (by decide) (by decide) fun T478 X478 e478 => ?_
        refine own_astore X478 hx (hb hby at_15) #[.val (.int x0), .val (.int x1), .val (.int x2), .val (.ref w_SqlText_Control_WITH_WORK), .val (.ref w_SqlText_Control_WITH_WORK), .val (.ref w_SqlText_Control_ALONE), .unset, .unset, .unset, .unset, .unset] rfl rfl 17 rfl ?_
        refine own_aload_n X478 hx (hb hby at_17) rfl rfl 18 rfl ?_
        refine own_aload X478 hx (hb hby at_18) rfl rfl 20 rfl ?_
        refine own_pureV X478 hx hZ hown (own_w hw 10 rfl) (own_w hw 11 rfl) (notFace_of_selects (args := #[]) (mvT hZ (own_w hw 13 rfl))) (own_w hw 13 rfl) (own_w hw 12 rfl) (own_w hw 6 rfl) (own_w hw 14 rfl) (by decide) w_SqlText_Control_WITH_WORK [(.ref w_SqlText_Control_WITH_WORK)] [] 0 (rm_then_8 l Z a0 hw []  h0 n0 H) (by decide) (by decide) rfl rfl e478 E_w_SqlText_Control_WITH_WORK (by rw [hml]; rfl) (lenOf pd_1 rfl) (Nat.le_of_eq rfl) (hb hby at_20) 23 rfl rfl (by decide) (by decide) fun T480 X480 e480 => ?_
        refine own_astore X480 hx (hb hby at_23) #[.val (.int x0), .val (.int x1), .val (.int x2), .val (.ref w_SqlText_Control_WITH_WORK), .val (.ref w_SqlText_Control_WITH_WORK), .val (.ref w_SqlText_Control_ALONE), .val (.ref w_SqlText_Control_WITH_WORK), .unset, .unset, .unset, .unset] rfl rfl 25 rfl ?_
        refine own_aload_n X480 hx (hb hby at_25) rfl rfl 26 rfl ?_
        refine own_getS X480 hx hZ hown (host := "") (Or.inl (own_w hw 5 rfl)) Via.refl e480 S_w_SqlText_Control_NONE (hb hby at_26) 29 rfl fun T481 X481 e481 => ?_
        refine own_acmp X481 hx false (hb hby at_29) rfl rfl (decide_eq_false fun q => (Ne.symm ne_w_SqlText_Control_NONE_w_SqlText_Control_WITH_WORK) (Value.ref.inj q)) 44 (by decide) (by decide) ?_
        refine own_iconst X481 hx (hb hby at_44) (0 : Int32) rfl 45 rfl ?_
        refine own_istore X481 hx (hb hby at_45) #[.val (.int x0), .val (.int x1), .val (.int x2), .val (.ref w_SqlText_Control_WITH_WORK), .val (.ref w_SqlText_Control_WITH_WORK), .val (.ref w_SqlText_Control_ALONE), .val (.ref w_SqlText_Control_WITH_WORK), .val (.int (0 : Int32)), .unset, .unset, .unset] rfl 47 rfl ?_
        refine own_iload X481 hx (hb hby at_47) rfl 49 rfl ?_
        refine own_ifY X481 hx (hb hby at_49) ((if0 _ _).trans (teq (by decide : (0 : Int32) = (0 : Int32))).1) 70 (by decide) (by decide) ?_
        refine own_aload X481 hx (hb hby at_70) rfl rfl 72 rfl ?_
        refine own_getS X481 hx hZ hown (host := "") (Or.inl (own_w hw 8 rfl)) Via.refl e481 S_w_SqlText_Control_WITH_WORK (hb hby at_72) 75 rfl fun T482 X482 e482 => ?_
        refine own_acmp X482 hx true (hb hby at_75) rfl rfl (decide_eq_true rfl) 78 (by decide) (by decide) ?_
        refine own_iconst X482 hx (hb hby at_78) (1 : Int32) rfl 79 rfl ?_
        refine own_goto X482 hx (hb hby at_79) 83 (by decide) (by decide) ?_
        refine own_istore X482 hx (hb hby at_83) #[.val (.int x0), .val (.int x1), .val (.int x2), .val (.ref w_SqlText_Control_WITH_WORK), .val (.ref w_SqlText_Control_WITH_WORK), .val (.ref w_SqlText_Control_ALONE), .val (.ref w_SqlText_Control_WITH_WORK), .val (.int (0 : Int32)), .val (.int (1 : Int32)), .unset, .unset] rfl 85 rfl ?_
        refine own_aload X482 hx (hb hby at_85) rfl rfl 87 rfl ?_
        refine own_aload X482 hx (hb hby at_87) rfl rfl 89 rfl ?_
        refine own_aload_n X482 hx (hb hby at_89) rfl rfl 90 rfl ?_
        refine own_pureV X482 hx hZ hown (own_w hw 10 rfl) (own_w hw 11 rfl) (notFace_of_selects (args := #[]) (mvT hZ (own_w hw 13 rfl))) (own_w hw 13 rfl) (own_w hw 12 rfl) (own_w hw 6 rfl) (own_w hw 14 rfl) (by decide) w_SqlText_Control_WITH_WORK [(.ref w_SqlText_Control_WITH_WORK)] [(.ref w_SqlText_Control_WITH_WORK)] 1 (rm_then_8 l Z a0 hw []  h0 n0 H) (by decide) (by decide) rfl rfl e482 E_w_SqlText_Control_WITH_WORK (by rw [hml]; rfl) (lenOf pd_1 rfl) (Nat.le_of_eq rfl) (hb hby at_90) 93 rfl rfl (by decide) (by decide) fun T484 X484 e484 => ?_
        refine own_acmp X484 hx true (hb hby at_93) rfl rfl (decide_eq_true rfl) 96 (by decide) (by decide) ?_
        refine own_iconst X484 hx (hb hby at_96) (1 : Int32) rfl 97 rfl ?_
        refine own_goto X484 hx (hb hby at_97) 101 (by decide) (by decide) ?_
        refine own_istore X484 hx (hb hby at_101) #[.val (.int x0), .val (.int x1), .val (.int x2), .val (.ref w_SqlText_Control_WITH_WORK), .val (.ref w_SqlText_Control_WITH_WORK), .val (.ref w_SqlText_Control_ALONE), .val (.ref w_SqlText_Control_WITH_WORK), .val (.int (0 : Int32)), .val (.int (1 : Int32)), .val (.int (1 : Int32)), .unset] rfl 103 rfl ?_
        refine own_aload X484 hx (hb hby at_103) rfl rfl 105 rfl ?_
        refine own_aload X484 hx (hb hby at_105) rfl rfl 107 rfl ?_
        refine own_pureV X484 hx hZ hown (own_w hw 10 rfl) (own_w hw 11 rfl) (notFace_of_selects (args := #[]) (mvT hZ (own_w hw 13 rfl))) (own_w hw 13 rfl) (own_w hw 12 rfl) (own_w hw 6 rfl) (own_w hw 14 rfl) (by decide) w_SqlText_Control_WITH_WORK [(.ref w_SqlText_Control_ALONE)] [] 0 (rm_then_6 l Z a0 hw []  h0 n0 H) (by decide) (by decide) rfl rfl e484 E_w_SqlText_Control_WITH_WORK (by rw [hml]; rfl) (lenOf pd_1 rfl) (Nat.le_of_eq rfl) (hb hby at_107) 110 rfl rfl (by decide) (by decide) fun T486 X486 e486 => ?_
        refine own_aload_n X486 hx (hb hby at_110) rfl rfl 111 rfl ?_
        refine own_aload X486 hx (hb hby at_111) rfl rfl 113 rfl ?_
        refine own_aload X486 hx (hb hby at_113) rfl rfl 115 rfl ?_
        refine own_pureV X486 hx hZ hown (own_w hw 10 rfl) (own_w hw 11 rfl) (notFace_of_selects (args := #[]) (mvT hZ (own_w hw 13 rfl))) (own_w hw 13 rfl) (own_w hw 12 rfl) (own_w hw 6 rfl) (own_w hw 14 rfl) (by decide) w_SqlText_Control_WITH_WORK [(.ref w_SqlText_Control_ALONE)] [(.ref w_SqlText_Control_WITH_WORK), (.ref w_SqlText_Control_WITH_WORK)] 2 (rm_then_6 l Z a0 hw []  h0 n0 H) (by decide) (by decide) rfl rfl e486 E_w_SqlText_Control_WITH_WORK (by rw [hml]; rfl) (lenOf pd_1 rfl) (Nat.le_of_eq rfl) (hb hby at_115) 118 rfl rfl (by decide) (by decide) fun T488 X488 e488 => ?_
        refine own_pureV X488 hx hZ hown (own_w hw 10 rfl) (own_w hw 11 rfl) (notFace_of_selects (args := #[]) (mvT hZ (own_w hw 13 rfl))) (own_w hw 13 rfl) (own_w hw 12 rfl) (own_w hw 6 rfl) (own_w hw 14 rfl) (by decide) w_SqlText_Control_WITH_WORK [(.ref w_SqlText_Control_WITH_WORK)] [(.ref w_SqlText_Control_WITH_WORK)] 1 (rm_then_8 l Z a0 hw []  h0 n0 H) (by decide) (by decide) rfl rfl e488 E_w_SqlText_Control_WITH_WORK (by rw [hml]; rfl) (lenOf pd_1 rfl) (Nat.le_of_eq rfl) (hb hby at_118) 121 rfl rfl (by decide) (by decide) fun T490 X490 e490 => ?_
        refine own_acmp X490 hx true (hb hby at_121) rfl rfl (decide_eq_true rfl) 124 (by decide) (by decide) ?_
        refine own_iconst X490 hx (hb hby at_124) (1 : Int32) rfl 125 rfl ?_
        refine own_goto X490 hx (hb hby at_125) 129 (by decide) (by decide) ?_
        refine own_istore X490 hx (hb hby at_129) #[.val (.int x0), .val (.int x1), .val (.int x2), .val (.ref w_SqlText_Control_WITH_WORK), .val (.ref w_SqlText_Control_WITH_WORK), .val (.ref w_SqlText_Control_ALONE), .val (.ref w_SqlText_Control_WITH_WORK), .val (.int (0 : Int32)), .val (.int (1 : Int32)), .val (.int (1 : Int32)), .val (.int (1 : Int32))] rfl 131 rfl ?_
        refine own_iload X490 hx (hb hby at_131) rfl 133 rfl ?_
        refine own_ifN X490 hx (hb hby at_133) ((if0 _ _).trans (feq (by decide : ¬ ((1 : Int32) = (0 : Int32)))).1) 136 rfl ?_
        refine own_iload X490 hx (hb hby at_136) rfl 138 rfl ?_
        refine own_ifN X490 hx (hb hby at_138) ((if0 _ _).trans (feq (by decide : ¬ ((1 : Int32) = (0 : Int32)))).1) 141 rfl ?_
        refine own_iload X490 hx (hb hby at_141) rfl 143 rfl ?_
        refine own_ifN X490 hx (hb hby at_143) ((if0 _ _).trans (feq (by decide : ¬ ((1 : Int32) = (0 : Int32)))).1) 146 rfl ?_
        refine own_iconst X490 hx (hb hby at_146) (1 : Int32) rfl 147 rfl ?_
        refine own_goto X490 hx (hb hby at_147) 151 (by decide) (by decide) ?_
        exact own_retZ X490 hx hk hret (hb hby at_151) rfl ⟨rfl, Fr.nil _⟩ (by decide) (by decide)
      · skip
        refine own_iload_n X0 hx (hb hby at_0) rfl 1 rfl ?_
        refine own_pureS X0 hx hZ hown (own_w hw 0 rfl) (own_w hw 1 rfl) (own_w hw 2 rfl) (own_w hw 3 rfl) (by decide) [(.int x0)] [] 0 (rm_pick_2 l Z a0 hw [] x0 h0 n0 H q1) (by decide) (by decide) rfl rfl e0 (by rw [hml]; rfl) (lenOf pd_0 rfl) (Nat.le_of_eq rfl) (hb hby at_1) 4 rfl rfl (by decide) (by decide) fun T492 X492 e492 => ?_
        refine own_astore_n X492 hx (hb hby at_4) #[.val (.int x0), .val (.int x1), .val (.int x2), .val (.ref w_SqlText_Control_WITH_WORK), .unset, .unset, .unset, .unset, .unset, .unset, .unset] rfl rfl 5 rfl ?_
        refine own_iload_n X492 hx (hb hby at_5) rfl 6 rfl ?_
        refine own_pureS X492 hx hZ hown (own_w hw 0 rfl) (own_w hw 1 rfl) (own_w hw 2 rfl) (own_w hw 3 rfl) (by decide) [(.int x1)] [] 0 (rm_pick_2 l Z a0 hw [] x1 h0 n0 H q343) (by decide) (by decide) rfl rfl e492 (by rw [hml]; rfl) (lenOf pd_0 rfl) (Nat.le_of_eq rfl) (hb hby at_6) 9 rfl rfl (by decide) (by decide) fun T494 X494 e494 => ?_
        refine own_astore X494 hx (hb hby at_9) #[.val (.int x0), .val (.int x1), .val (.int x2), .val (.ref w_SqlText_Control_WITH_WORK), .val (.ref w_SqlText_Control_WITH_WORK), .unset, .unset, .unset, .unset, .unset, .unset] rfl rfl 11 rfl ?_
        refine own_iload_n X494 hx (hb hby at_11) rfl 12 rfl ?_
        refine own_pureS X494 hx hZ hown (own_w hw 0 rfl) (own_w hw 1 rfl) (own_w hw 2 rfl) (own_w hw 3 rfl) (by decide) [(.int x2)] [] 0 (rm_pick_2 l Z a0 hw [] x2 h0 n0 H q454) (by decide) (by decide) rfl rfl e494 (by rw [hml]; rfl) (lenOf pd_0 rfl) (Nat.le_of_eq rfl) (hb hby at_12) 15 rfl rfl (by decide) (by decide) fun T496 X496 e496 => ?_
        refine own_astore X496 hx (hb hby at_15) #[.val (.int x0), .val (.int x1), .val (.int x2), .val (.ref w_SqlText_Control_WITH_WORK), .val (.ref w_SqlText_Control_WITH_WORK), .val (.ref w_SqlText_Control_WITH_WORK), .unset, .unset, .unset, .unset, .unset] rfl rfl 17 rfl ?_
        refine own_aload_n X496 hx (hb hby at_17) rfl rfl 18 rfl ?_
        refine own_aload X496 hx (hb hby at_18) rfl rfl 20 rfl ?_
        refine own_pureV X496 hx hZ hown (own_w hw 10 rfl) (own_w hw 11 rfl) (notFace_of_selects (args := #[]) (mvT hZ (own_w hw 13 rfl))) (own_w hw 13 rfl) (own_w hw 12 rfl) (own_w hw 6 rfl) (own_w hw 14 rfl) (by decide) w_SqlText_Control_WITH_WORK [(.ref w_SqlText_Control_WITH_WORK)] [] 0 (rm_then_8 l Z a0 hw []  h0 n0 H) (by decide) (by decide) rfl rfl e496 E_w_SqlText_Control_WITH_WORK (by rw [hml]; rfl) (lenOf pd_1 rfl) (Nat.le_of_eq rfl) (hb hby at_20) 23 rfl rfl (by decide) (by decide) fun T498 X498 e498 => ?_
        refine own_astore X498 hx (hb hby at_23) #[.val (.int x0), .val (.int x1), .val (.int x2), .val (.ref w_SqlText_Control_WITH_WORK), .val (.ref w_SqlText_Control_WITH_WORK), .val (.ref w_SqlText_Control_WITH_WORK), .val (.ref w_SqlText_Control_WITH_WORK), .unset, .unset, .unset, .unset] rfl rfl 25 rfl ?_
        refine own_aload_n X498 hx (hb hby at_25) rfl rfl 26 rfl ?_
        refine own_getS X498 hx hZ hown (host := "") (Or.inl (own_w hw 5 rfl)) Via.refl e498 S_w_SqlText_Control_NONE (hb hby at_26) 29 rfl fun T499 X499 e499 => ?_
        refine own_acmp X499 hx false (hb hby at_29) rfl rfl (decide_eq_false fun q => (Ne.symm ne_w_SqlText_Control_NONE_w_SqlText_Control_WITH_WORK) (Value.ref.inj q)) 44 (by decide) (by decide) ?_
        refine own_iconst X499 hx (hb hby at_44) (0 : Int32) rfl 45 rfl ?_
        refine own_istore X499 hx (hb hby at_45) #[.val (.int x0), .val (.int x1), .val (.int x2), .val (.ref w_SqlText_Control_WITH_WORK), .val (.ref w_SqlText_Control_WITH_WORK), .val (.ref w_SqlText_Control_WITH_WORK), .val (.ref w_SqlText_Control_WITH_WORK), .val (.int (0 : Int32)), .unset, .unset, .unset] rfl 47 rfl ?_
        refine own_iload X499 hx (hb hby at_47) rfl 49 rfl ?_
        refine own_ifY X499 hx (hb hby at_49) ((if0 _ _).trans (teq (by decide : (0 : Int32) = (0 : Int32))).1) 70 (by decide) (by decide) ?_
        refine own_aload X499 hx (hb hby at_70) rfl rfl 72 rfl ?_
        refine own_getS X499 hx hZ hown (host := "") (Or.inl (own_w hw 8 rfl)) Via.refl e499 S_w_SqlText_Control_WITH_WORK (hb hby at_72) 75 rfl fun T500 X500 e500 => ?_
        refine own_acmp X500 hx true (hb hby at_75) rfl rfl (decide_eq_true rfl) 78 (by decide) (by decide) ?_
        refine own_iconst X500 hx (hb hby at_78) (1 : Int32) rfl 79 rfl ?_
        refine own_goto X500 hx (hb hby at_79) 83 (by decide) (by decide) ?_
        refine own_istore X500 hx (hb hby at_83) #[.val (.int x0), .val (.int x1), .val (.int x2), .val (.ref w_SqlText_Control_WITH_WORK), .val (.ref w_SqlText_Control_WITH_WORK), .val (.ref w_SqlText_Control_WITH_WORK), .val (.ref w_SqlText_Control_WITH_WORK), .val (.int (0 : Int32)), .val (.int (1 : Int32)), .unset, .unset] rfl 85 rfl ?_
        refine own_aload X500 hx (hb hby at_85) rfl rfl 87 rfl ?_
        refine own_aload X500 hx (hb hby at_87) rfl rfl 89 rfl ?_
        refine own_aload_n X500 hx (hb hby at_89) rfl rfl 90 rfl ?_
        refine own_pureV X500 hx hZ hown (own_w hw 10 rfl) (own_w hw 11 rfl) (notFace_of_selects (args := #[]) (mvT hZ (own_w hw 13 rfl))) (own_w hw 13 rfl) (own_w hw 12 rfl) (own_w hw 6 rfl) (own_w hw 14 rfl) (by decide) w_SqlText_Control_WITH_WORK [(.ref w_SqlText_Control_WITH_WORK)] [(.ref w_SqlText_Control_WITH_WORK)] 1 (rm_then_8 l Z a0 hw []  h0 n0 H) (by decide) (by decide) rfl rfl e500 E_w_SqlText_Control_WITH_WORK (by rw [hml]; rfl) (lenOf pd_1 rfl) (Nat.le_of_eq rfl) (hb hby at_90) 93 rfl rfl (by decide) (by decide) fun T502 X502 e502 => ?_
        refine own_acmp X502 hx true (hb hby at_93) rfl rfl (decide_eq_true rfl) 96 (by decide) (by decide) ?_
        refine own_iconst X502 hx (hb hby at_96) (1 : Int32) rfl 97 rfl ?_
        refine own_goto X502 hx (hb hby at_97) 101 (by decide) (by decide) ?_
        refine own_istore X502 hx (hb hby at_101) #[.val (.int x0), .val (.int x1), .val (.int x2), .val (.ref w_SqlText_Control_WITH_WORK), .val (.ref w_SqlText_Control_WITH_WORK), .val (.ref w_SqlText_Control_WITH_WORK), .val (.ref w_SqlText_Control_WITH_WORK), .val (.int (0 : Int32)), .val (.int (1 : Int32)), .val (.int (1 : Int32)), .unset] rfl 103 rfl ?_
        refine own_aload X502 hx (hb hby at_103) rfl rfl 105 rfl ?_
        refine own_aload X502 hx (hb hby at_105) rfl rfl 107 rfl ?_
        refine own_pureV X502 hx hZ hown (own_w hw 10 rfl) (own_w hw 11 rfl) (notFace_of_selects (args := #[]) (mvT hZ (own_w hw 13 rfl))) (own_w hw 13 rfl) (own_w hw 12 rfl) (own_w hw 6 rfl) (own_w hw 14 rfl) (by decide) w_SqlText_Control_WITH_WORK [(.ref w_SqlText_Control_WITH_WORK)] [] 0 (rm_then_8 l Z a0 hw []  h0 n0 H) (by decide) (by decide) rfl rfl e502 E_w_SqlText_Control_WITH_WORK (by rw [hml]; rfl) (lenOf pd_1 rfl) (Nat.le_of_eq rfl) (hb hby at_107) 110 rfl rfl (by decide) (by decide) fun T504 X504 e504 => ?_
        refine own_aload_n X504 hx (hb hby at_110) rfl rfl 111 rfl ?_
        refine own_aload X504 hx (hb hby at_111) rfl rfl 113 rfl ?_
        refine own_aload X504 hx (hb hby at_113) rfl rfl 115 rfl ?_
        refine own_pureV X504 hx hZ hown (own_w hw 10 rfl) (own_w hw 11 rfl) (notFace_of_selects (args := #[]) (mvT hZ (own_w hw 13 rfl))) (own_w hw 13 rfl) (own_w hw 12 rfl) (own_w hw 6 rfl) (own_w hw 14 rfl) (by decide) w_SqlText_Control_WITH_WORK [(.ref w_SqlText_Control_WITH_WORK)] [(.ref w_SqlText_Control_WITH_WORK), (.ref w_SqlText_Control_WITH_WORK)] 2 (rm_then_8 l Z a0 hw []  h0 n0 H) (by decide) (by decide) rfl rfl e504 E_w_SqlText_Control_WITH_WORK (by rw [hml]; rfl) (lenOf pd_1 rfl) (Nat.le_of_eq rfl) (hb hby at_115) 118 rfl rfl (by decide) (by decide) fun T506 X506 e506 => ?_
        refine own_pureV X506 hx hZ hown (own_w hw 10 rfl) (own_w hw 11 rfl) (notFace_of_selects (args := #[]) (mvT hZ (own_w hw 13 rfl))) (own_w hw 13 rfl) (own_w hw 12 rfl) (own_w hw 6 rfl) (own_w hw 14 rfl) (by decide) w_SqlText_Control_WITH_WORK [(.ref w_SqlText_Control_WITH_WORK)] [(.ref w_SqlText_Control_WITH_WORK)] 1 (rm_then_8 l Z a0 hw []  h0 n0 H) (by decide) (by decide) rfl rfl e506 E_w_SqlText_Control_WITH_WORK (by rw [hml]; rfl) (lenOf pd_1 rfl) (Nat.le_of_eq rfl) (hb hby at_118) 121 rfl rfl (by decide) (by decide) fun T508 X508 e508 => ?_
        refine own_acmp X508 hx true (hb hby at_121) rfl rfl (decide_eq_true rfl) 124 (by decide) (by decide) ?_
        refine own_iconst X508 hx (hb hby at_124) (1 : Int32) rfl 125 rfl ?_
        refine own_goto X508 hx (hb hby at_125) 129 (by decide) (by decide) ?_
        refine own_istore X508 hx (hb hby at_129) #[.val (.int x0), .val (.int x1), .val (.int x2), .val (.ref w_SqlText_Control_WITH_WORK), .val (.ref w_SqlText_Control_WITH_WORK), .val (.ref w_SqlText_Control_WITH_WORK), .val (.ref w_SqlText_Control_WITH_WORK), .val (.int (0 : Int32)), .val (.int (1 : Int32)), .val (.int (1 : Int32)), .val (.int (1 : Int32))] rfl 131 rfl ?_
        refine own_iload X508 hx (hb hby at_131) rfl 133 rfl ?_
        refine own_ifN X508 hx (hb hby at_133) ((if0 _ _).trans (feq (by decide : ¬ ((1 : Int32) = (0 : Int32)))).1) 136 rfl ?_
        refine own_iload X508 hx (hb hby at_136) rfl 138 rfl ?_
        refine own_ifN X508 hx (hb hby at_138) ((if0 _ _).trans (feq (by decide : ¬ ((1 : Int32) = (0 : Int32)))).1) 141 rfl ?_
        refine own_iload X508 hx (hb hby at_141) rfl 143 rfl ?_
        refine own_ifN X508 hx (hb hby at_143) ((if0 _ _).trans (feq (by decide : ¬ ((1 : Int32) = (0 : Int32)))).1) 146 rfl ?_
        refine own_iconst X508 hx (hb hby at_146) (1 : Int32) rfl 147 rfl ?_
        refine own_goto X508 hx (hb hby at_147) 151 (by decide) (by decide) ?_
        exact own_retZ X508 hx hk hret (hb hby at_151) rfl ⟨rfl, Fr.nil _⟩ (by decide) (by decide)
set_option maxRecDepth 65536 in
set_option maxHeartbeats 40000000 in
theorem comes_1 {Post : Tables → Env → Array Value → State → Outcome → State → Prop} (hpost : ∀ tb e args s v u, (limb_1_1.after args s (.returned v) u = true ∧ limb_1_2.after args s (.returned v) u = true ∧ True) → FrameEnd s (.returned v) u (Jvm.fieldLocs frame_1_writes args s ++ Jvm.arrayLocs frame_1_arrays args s ++ Jvm.staticLocs frame_1_statics s) 0 0 → Post tb e args s (.returned v) u) :
    ArmFor flags0 classFile x code maxLocals ret World_1 tables_1 room_1 Calls_1 rest_1 Pre_1 Post := by
  intro l hfl _ _ p e ha hc hk s m args below hf hA hF happ hP
  obtain ⟨hcalls, hrest, hpre⟩ := hP
  obtain ⟨-, -, -, hnamed, -, -, -, hat⟩ := (Spec.applies_iff hf).mp happ
  obtain ⟨hg, hn⟩ := and_e (Cond.before_iff.mp (show (Jvm.Cond.and given_1 narrow_1).before args s = true from hpre))
  obtain ⟨hn101a, hn101b⟩ := and_e hg
  obtain ⟨hn102a, hn102b⟩ := and_e hn101b
  obtain ⟨hn103a, hn103b⟩ := and_e hn102b
  obtain ⟨w0, w1, w2, rfl⟩ : ∃ w0 w1 w2 : Value, args = #[w0, w1, w2] := by
    have hs : args.size = 3 := by simpa [Cond.value, given_1] using hn101a
    obtain ⟨L⟩ := args
    match L, hs with
    | [w0, w1, w2], _ => exact ⟨w0, w1, w2, rfl⟩
  have hw := fun d (hd : d ∈ tables_1) => atoms_spec (ws := Jvm.Cond.code x code maxLocals ret :: tables_1) hat d (List.mem_cons_of_mem _ hd)
  have hfit : Fit s := fun {y c} hc i hi => by
    obtain ⟨ha, rfl⟩ := Array.getElem?_eq_some_iff.mp hc
    have q := List.all_eq_true.mp ((Array.all_eq_true_iff_forall_mem.mp hF) _ (Array.getElem_mem ha)) i (List.mem_range.mpr hi)
    simpa [Array.getElem?_eq_getElem hi] using q
  obtain ⟨i0, ei0⟩ := is_v hn102a
  obtain rfl : w0 = (.int i0) := Option.some.inj ei0
  obtain ⟨i1, ei1⟩ := is_v hn103a
  obtain rfl : w1 = (.int i1) := Option.some.inj ei1
  obtain ⟨i2, ei2⟩ := is_v hn103b
  obtain rfl : w2 = (.int i2) := Option.some.inj ei2
  obtain ⟨hn1a, hn1b⟩ := and_e hn
  obtain ⟨hn2a, hn2b⟩ := and_e hn1b
  obtain ⟨hn3a, hn3b⟩ := and_e hn2b
  obtain ⟨hn4a, hn4b⟩ := and_e hn3b
  obtain ⟨hn5a, hn5b⟩ := and_e hn4b
  obtain ⟨w_SqlText_Control_NONE, ev_w_SqlText_Control_NONE⟩ := exa_v hn1a
  have S_w_SqlText_Control_NONE := Sta.start ev_w_SqlText_Control_NONE (Or.inr ⟨(own_w hw 6 rfl), (own_w hw 7 rfl)⟩)
  have E_w_SqlText_Control_NONE := Exa.start ev_w_SqlText_Control_NONE hn1a
  obtain ⟨w_SqlText_Control_WITH_WORK, ev_w_SqlText_Control_WITH_WORK⟩ := exa_v hn2a
  have S_w_SqlText_Control_WITH_WORK := Sta.start ev_w_SqlText_Control_WITH_WORK (Or.inr ⟨(own_w hw 6 rfl), (own_w hw 9 rfl)⟩)
  have E_w_SqlText_Control_WITH_WORK := Exa.start ev_w_SqlText_Control_WITH_WORK hn2a
  obtain ⟨w_SqlText_Control_ALONE, ev_w_SqlText_Control_ALONE⟩ := exa_v hn5a
  have S_w_SqlText_Control_ALONE := Sta.start ev_w_SqlText_Control_ALONE (Or.inr ⟨(own_w hw 6 rfl), (own_w hw 18 rfl)⟩)
  have E_w_SqlText_Control_ALONE := Exa.start ev_w_SqlText_Control_ALONE hn5a
  have F_w_SqlText_Control_WITH_WORK_ordinal := own_fldI ev_w_SqlText_Control_WITH_WORK hn3a
  have F_w_SqlText_Control_NONE_ordinal := own_fldI ev_w_SqlText_Control_NONE hn4a
  have F_w_SqlText_Control_ALONE_ordinal := own_fldI ev_w_SqlText_Control_ALONE hn5b
  have ne_w_SqlText_Control_NONE_w_SqlText_Control_WITH_WORK : w_SqlText_Control_NONE ≠ w_SqlText_Control_WITH_WORK := Fld.ne F_w_SqlText_Control_NONE_ordinal F_w_SqlText_Control_WITH_WORK_ordinal (by intro q; cases q)
  have ne_w_SqlText_Control_ALONE_w_SqlText_Control_WITH_WORK : w_SqlText_Control_ALONE ≠ w_SqlText_Control_WITH_WORK := Fld.ne F_w_SqlText_Control_ALONE_ordinal F_w_SqlText_Control_WITH_WORK_ordinal (by intro q; cases q)
  have ne_w_SqlText_Control_ALONE_w_SqlText_Control_NONE : w_SqlText_Control_ALONE ≠ w_SqlText_Control_NONE := Fld.ne F_w_SqlText_Control_ALONE_ordinal F_w_SqlText_Control_NONE_ordinal (by intro q; cases q)
  obtain ⟨n, o, h1, h2, h3, _, L, rfl, ⟨rfl, N⟩, hq⟩ := rm0 l s _ hw tables_1 i0 i1 i2 s.heap s.heap.size (show own_C s s.heap w_SqlText_Control_NONE w_SqlText_Control_WITH_WORK w_SqlText_Control_ALONE from ⟨S_w_SqlText_Control_NONE, E_w_SqlText_Control_NONE, S_w_SqlText_Control_WITH_WORK, E_w_SqlText_Control_WITH_WORK, S_w_SqlText_Control_ALONE, E_w_SqlText_Control_ALONE, F_w_SqlText_Control_WITH_WORK_ordinal, F_w_SqlText_Control_NONE_ordinal, F_w_SqlText_Control_ALONE_ordinal, ne_w_SqlText_Control_NONE_w_SqlText_Control_WITH_WORK, ne_w_SqlText_Control_ALONE_w_SqlText_Control_WITH_WORK, ne_w_SqlText_Control_ALONE_w_SqlText_Control_NONE⟩) p e ha hc hk s m _ below hf ((Spec.applies_iff_loose hf).mp happ).1 ⟨rfl, State.Warmed39.refl s, rfl⟩ trivial
  refine ⟨n, _, h1, h2, h3, hpost _ _ _ _ _ _ ⟨Cond.after_iff.mpr rfl, Cond.after_iff.mpr (eq_i res_at (Term.int_eval (1)) rfl), trivial⟩ ⟨hq.1, hq.2.1, (hq.2.2.sift fun y hy => Or.inr (N y hy)).mono (by decide) (by decide)⟩⟩
theorem main_1_1 : Claimed_1_1 := comes_1 fun _ _ _ _ _ _ h hF => ⟨h.1, hF⟩
theorem main_1_2 : Claimed_1_2 := comes_1 fun _ _ _ _ _ _ h hF => ⟨h.2.1, hF⟩
end Jvm.Pilot.@@N@@
namespace Jvm.Pilot.@@N@@
open Jvm Jvm.ClassFile Sem Op Lib Jvm.Free Jvm.Stand Jvm.Pilot.@@N@@.Jvm.D
/-! MADE BY PROGRAM (witnessworld.py) out of the Statement's table words and the real class files: 12 classes; the members and pool entries that the words name. The judged class is class 1, her method 2. -/
namespace start1
open Jvm.ClassFile
def u (s : String) : CpInfo := .utf8 (stringToUtf16 s)
/-- a pool by its gaps: so many unusable entries, then the entry; so many at the end -/
def gap : Nat → List CpInfo → List CpInfo
  | 0, r => r
  | n + 1, r => .unusable :: gap n r
def poolList (es : List (Nat × CpInfo)) (last : Nat) : List CpInfo := es.foldr (fun e r => gap e.1 (e.2 :: r)) (gap last [])
def pool (es : List (Nat × CpInfo)) (last : Nat) : Array CpInfo := ⟨poolList es last⟩
def fileOf (pool : Array CpInfo) (this : Nat) (attrs : Array Attribute := #[]) (ms : Array MethodInfo := #[]) (fl : Nat := 33) (sup : Nat := 0) (ifs : Array Nat := #[]) (fds : Array FieldInfo := #[]) : ClassFile where
  minorVersion := 0
  majorVersion := 65
  constantPool := pool
  accessFlags := fl
  thisClass := this
  superClass := sup
  interfaces := ifs
  fields := fds
  methods := ms
  attributes := attrs
def plain (name : String) (sup : Option ClassId) : Class where
  name := name
  kind := .ordinary
  loader := none
  accessFlags := 33
  super := sup
  interfaces := #[]
  cf := none
  fields := #[]
  methods := #[]
  instanceTypes := #[]
  staticTypes := #[]
  resolved := #[]
  callSites := []
  init := .initialized
  statics := none
  mirror := none

def pool0 : Array CpInfo := pool [(5, u "<init>"), (0, u "()V"), (1, .class_ 10), (1, u "java/lang/Object")] 113

def k0m0 : Method := { name := "<init>", desc := "()V", sig := { parameters := [], returnType := none }, accessFlags := 1, code := none }
/-- java/lang/Object -/
def k0 : Class := { plain "java/lang/Object" none with
  accessFlags := 33
  interfaces := #[]
  cf := some (fileOf pool0 8 #[] #[{ accessFlags := 1, nameIndex := 5, descriptorIndex := 6, attributes := #[] }] 33 0 #[] #[])
  fields := #[]
  methods := #[k0m0]
  instanceTypes := #[]
  staticTypes := #[]
  resolved := Array.replicate 124 none
  statics := none }

def pool1 : Array CpInfo := pool [(2, .class_ 4), (1, u "java/lang/Object"), (0, u "<init>"), (0, u "()V"), (0, .integer 2147483647), (0, .fieldref 9 10), (0, .class_ 11), (0, .nameAndType 12 13), (0, u "com/example/maco/maco/adapter/SqlText$Control"), (0, u "NONE"), (0, u "Lcom/example/maco/maco/adapter/SqlText$Control;"), (0, .fieldref 9 15), (0, .nameAndType 16 13), (0, u "ALONE"), (0, .fieldref 9 18), (0, .nameAndType 19 13), (0, u "WITH_WORK"), (0, .methodref 21 22), (0, .class_ 23), (0, .nameAndType 24 25), (0, u "com/example/maco/maco/adapter/ControlThenPinLaw"), (0, u "pick"), (0, u "(I)Lcom/example/maco/maco/adapter/SqlText$Control;"), (0, .methodref 9 27), (0, .nameAndType 28 29), (0, u "then"), (0, u "(Lcom/example/maco/maco/adapter/SqlText$Control;)Lcom/example/maco/maco/adapter/SqlText$Control;"), (3, u "law"), (0, u "(III)Z")] 6

def k1m0 : Method := { name := "<init>", desc := "()V", sig := { parameters := [], returnType := none }, accessFlags := 2, code := none }
def k1c1 : Code := { maxStack := 2, maxLocals := 2, code := method_2_code, exceptionTable := #[], attributes := #[] }
def k1m1 : Method := { name := "pick", desc := "(I)Lcom/example/maco/maco/adapter/SqlText$Control;", sig := { parameters := [.int], returnType := some (.object "com/example/maco/maco/adapter/SqlText$Control") }, accessFlags := 10, code := some k1c1 }
def k1c2 : Code := { maxStack := 4, maxLocals := 11, code := code, exceptionTable := #[], attributes := #[] }
def k1m2 : Method := { name := "law", desc := "(III)Z", sig := { parameters := [.int, .int, .int], returnType := some .boolean }, accessFlags := 9, code := some k1c2 }
/-- com/example/maco/maco/adapter/ControlThenPinLaw -/
def k1 : Class := { plain "com/example/maco/maco/adapter/ControlThenPinLaw" (some 0) with
  accessFlags := 49
  interfaces := #[]
  cf := some (fileOf pool1 21 #[] #[{ accessFlags := 2, nameIndex := 5, descriptorIndex := 6, attributes := #[] }, { accessFlags := 10, nameIndex := 24, descriptorIndex := 25, attributes := #[] }, { accessFlags := 9, nameIndex := 33, descriptorIndex := 34, attributes := #[] }] 49 2 #[] #[])
  fields := #[]
  methods := #[k1m0, k1m1, k1m2]
  instanceTypes := #[]
  staticTypes := #[]
  resolved := Array.replicate 41 none
  statics := none }

def pool2 : Array CpInfo := pool [(1, .class_ 2), (0, u "java/lang/constant/Constable"), (0, .class_ 4), (0, u "java/lang/Object")] 6

/-- java/lang/constant/Constable -/
def k2 : Class := { plain "java/lang/constant/Constable" (some 0) with
  accessFlags := 1537
  interfaces := #[]
  cf := some (fileOf pool2 1 #[] #[] 1537 3 #[] #[])
  fields := #[]
  methods := #[]
  instanceTypes := #[]
  staticTypes := #[]
  resolved := Array.replicate 11 none
  statics := none }

def pool3 : Array CpInfo := pool [(1, .class_ 2), (0, u "java/lang/Comparable"), (0, .class_ 4), (0, u "java/lang/Object")] 7

/-- java/lang/Comparable -/
def k3 : Class := { plain "java/lang/Comparable" (some 0) with
  accessFlags := 1537
  interfaces := #[]
  cf := some (fileOf pool3 1 #[] #[] 1537 3 #[] #[])
  fields := #[]
  methods := #[]
  instanceTypes := #[]
  staticTypes := #[]
  resolved := Array.replicate 12 none
  statics := none }

def pool4 : Array CpInfo := pool [(1, .class_ 2), (0, u "java/io/Serializable"), (0, .class_ 4), (0, u "java/lang/Object")] 2

/-- java/io/Serializable -/
def k4 : Class := { plain "java/io/Serializable" (some 0) with
  accessFlags := 1537
  interfaces := #[]
  cf := some (fileOf pool4 1 #[] #[] 1537 3 #[] #[])
  fields := #[]
  methods := #[]
  instanceTypes := #[]
  staticTypes := #[]
  resolved := Array.replicate 7 none
  statics := none }

def pool5 : Array CpInfo := pool [(2, .class_ 4), (1, u "java/lang/Enum"), (0, u "name"), (0, u "Ljava/lang/String;"), (2, u "ordinal"), (0, u "I"), (1, .class_ 14), (1, u "java/lang/Object"), (4, u "hash"), (86, .class_ 108), (1, u "java/lang/Enum$EnumDesc"), (2, .class_ 112), (0, u "java/lang/constant/Constable"), (0, .class_ 114), (0, u "java/lang/Comparable"), (0, .class_ 116), (0, u "java/io/Serializable")] 87

/-- java/lang/Enum -/
def k5 : Class := { plain "java/lang/Enum" (some 0) with
  accessFlags := 1057
  interfaces := #[2, 3, 4]
  cf := some (fileOf pool5 2 #[.nestMembers #[106]] #[] 1057 12 #[111, 113, 115] #[{ accessFlags := 18, nameIndex := 5, descriptorIndex := 6, attributes := #[] }, { accessFlags := 18, nameIndex := 9, descriptorIndex := 10, attributes := #[] }, { accessFlags := 2, nameIndex := 19, descriptorIndex := 10, attributes := #[] }])
  fields := #[{ name := "name", type := (.object "java/lang/String"), accessFlags := 18, slot := 0, constantValue := 0 }, { name := "ordinal", type := .int, accessFlags := 18, slot := 1, constantValue := 0 }, { name := "hash", type := .int, accessFlags := 2, slot := 2, constantValue := 0 }]
  methods := #[]
  instanceTypes := #[(.object "java/lang/String"), .int, .int]
  staticTypes := #[]
  resolved := Array.replicate 204 none
  statics := none }

def pool6 : Array CpInfo := pool [(1, .class_ 2), (0, u "com/example/maco/maco/adapter/SqlText$Control"), (0, .fieldref 1 4), (0, .nameAndType 5 6), (0, u "NONE"), (0, u "Lcom/example/maco/maco/adapter/SqlText$Control;"), (2, u "ALONE"), (0, .fieldref 1 11), (0, .nameAndType 12 6), (0, u "WITH_WORK"), (2, u "$VALUES"), (0, u "[Lcom/example/maco/maco/adapter/SqlText$Control;"), (6, .class_ 25), (1, u "java/lang/Enum"), (21, u "then"), (0, u "(Lcom/example/maco/maco/adapter/SqlText$Control;)Lcom/example/maco/maco/adapter/SqlText$Control;"), (6, .class_ 56), (0, u "com/example/maco/maco/adapter/SqlText")] 2

def k6c0 : Code := { maxStack := 2, maxLocals := 2, code := prog_15_method_4_code, exceptionTable := #[], attributes := #[] }
def k6m0 : Method := { name := "then", desc := "(Lcom/example/maco/maco/adapter/SqlText$Control;)Lcom/example/maco/maco/adapter/SqlText$Control;", sig := { parameters := [(.object "com/example/maco/maco/adapter/SqlText$Control")], returnType := some (.object "com/example/maco/maco/adapter/SqlText$Control") }, accessFlags := 0, code := some k6c0 }
/-- com/example/maco/maco/adapter/SqlText$Control -/
def k6 : Class := { plain "com/example/maco/maco/adapter/SqlText$Control" (some 5) with
  accessFlags := 16432
  interfaces := #[]
  cf := some (fileOf pool6 1 #[.nestHost 55] #[{ accessFlags := 0, nameIndex := 47, descriptorIndex := 48, attributes := #[] }] 16432 23 #[] #[{ accessFlags := 16409, nameIndex := 5, descriptorIndex := 6, attributes := #[] }, { accessFlags := 16409, nameIndex := 9, descriptorIndex := 6, attributes := #[] }, { accessFlags := 16409, nameIndex := 12, descriptorIndex := 6, attributes := #[] }, { accessFlags := 4122, nameIndex := 15, descriptorIndex := 16, attributes := #[] }])
  fields := #[{ name := "NONE", type := (.object "com/example/maco/maco/adapter/SqlText$Control"), accessFlags := 16409, slot := 0, constantValue := 0 }, { name := "ALONE", type := (.object "com/example/maco/maco/adapter/SqlText$Control"), accessFlags := 16409, slot := 1, constantValue := 0 }, { name := "WITH_WORK", type := (.object "com/example/maco/maco/adapter/SqlText$Control"), accessFlags := 16409, slot := 2, constantValue := 0 }, { name := "$VALUES", type := (.array (.object "com/example/maco/maco/adapter/SqlText$Control")), accessFlags := 4122, slot := 3, constantValue := 0 }]
  methods := #[k6m0]
  instanceTypes := #[(.object "java/lang/String"), .int, .int]
  staticTypes := #[(.object "com/example/maco/maco/adapter/SqlText$Control"), (.object "com/example/maco/maco/adapter/SqlText$Control"), (.object "com/example/maco/maco/adapter/SqlText$Control"), (.array (.object "com/example/maco/maco/adapter/SqlText$Control"))]
  resolved := Array.replicate 59 none
  statics := some 0 }

def pool7 : Array CpInfo := pool [(1, u "java/lang/Cloneable"), (0, .class_ 1), (0, u "java/lang/Object"), (0, .class_ 3)] 3

/-- java/lang/Cloneable -/
def k7 : Class := { plain "java/lang/Cloneable" (some 0) with
  accessFlags := 1537
  interfaces := #[]
  cf := some (fileOf pool7 2 #[] #[] 1537 4 #[] #[])
  fields := #[]
  methods := #[]
  instanceTypes := #[]
  staticTypes := #[]
  resolved := Array.replicate 8 none
  statics := none }

/-- the primitive byte -/
def k8 : Class := { plain "byte" none with kind := .primitive 'B', accessFlags := 0x411 }
/-- [B -/
def k9 : Class := { plain "[B" (some 0) with kind := .array 8 .byte, interfaces := #[7, 4], accessFlags := 1041 }

/-- the primitive int -/
def k10 : Class := { plain "int" none with kind := .primitive 'I', accessFlags := 0x411 }
/-- [I -/
def k11 : Class := { plain "[I" (some 0) with kind := .array 10 .int, interfaces := #[7, 4], accessFlags := 1041 }

def heap : Heap := #[{ cls := 6, slots := #[.ref 1, .ref 3, .ref 2, .null], vm := .statics 6 },
  { cls := 6, slots := #[.null, .int 0, .int 0], vm := .none },
  { cls := 6, slots := #[.null, .int 2, .int 0], vm := .none },
  { cls := 6, slots := #[.null, .int 1, .int 0], vm := .none }]
def classes : Array Class := #[k0, k1, k2, k3, k4, k5, k6, k7, k8, k9, k10, k11]
def interned : List (Array UInt16 × Addr) := []
def slotsUsed : Nat := 13
def theMethod : MethodId := ⟨1, 2⟩
def args0 : Array Value := #[.int 1, .int 2, .int 3]
def aboutOver (below : List Frame) : State where
  vm := { classes := classes, interned := interned.toArray }
  heap := heap
  slotsUsed := slotsUsed
  threads := #[{ frames := .invoking theMethod args0 :: below }]
def below0 : List Frame := [.native { method := ⟨0, 0⟩, args := #[] }]
def about1 : State := aboutOver below0
def p0 : Program := .bare "" "" ""
def e0 : Env := launch0.env 0 0 0
theorem w_frames : about1.frames = Frame.invoking theMethod args0 :: below0 := rfl
set_option maxRecDepth 65536 in
theorem w_args : argsFit about1.vm theMethod args0 = true := by decide +kernel
set_option maxRecDepth 65536 in
theorem w_heap : heapFits about1 = true := by decide +kernel
set_option maxRecDepth 65536 in
theorem w_runnable : about1.curStatus? = some .runnable := by decide +kernel
set_option maxRecDepth 65536 in
theorem w_alone : about1.alone = true := by decide +kernel
set_option maxRecDepth 65536 in
theorem w_named : about1.methodNamed? x = some theMethod := by decide +kernel
set_option maxRecDepth 65536 in
theorem w_hears : about1.hears theMethod below0 = true := by decide +kernel
set_option maxRecDepth 65536 in
theorem w_ripe : about1.ripe theMethod args0 below0 = true := by decide +kernel
theorem w_running : about1.status = .running := rfl
set_option maxRecDepth 65536 in
theorem w_room : about1.hasRoom e0.platform room_1 = true :=
  launch0.hasRoom_least _ room_1 (by decide +kernel) (by decide +kernel) (by decide +kernel) (by decide +kernel) (by decide +kernel) (by decide +kernel)
theorem allAtoms_all (ts : List Jvm.Cond) (a : Array Jvm.Value) (st : Jvm.State) : (allAtoms ts).before a st = ts.all (fun c => c.before a st) := by
  induction ts with
  | nil => rfl
  | cons c t ih =>
    show (Jvm.Cond.and c (allAtoms t)).before a st = _
    rw [Jvm.Cond.before_and, ih, List.all_cons]
def words1 : List Jvm.Cond := Jvm.Cond.code x code maxLocals ret :: tables_1
/-- a 'code' word, met by the world's own term for the bytes: nothing is compared byte by byte -/
theorem code_word {y : MethodName} {bytes : ByteArray} {mx : Nat} {rt : Option FieldType} {a : Array Value} {s : State} {m : MethodId} {meth : Method} {c : Code} (h1 : s.methodNamed? y = some m) (h2 : s.vm.method? m = some meth) (h3 : meth.code = some c) (h4 : c.code = bytes)
    (h5 : (c.maxLocals == mx && c.exceptionTable.isEmpty && decide (c.maxStack ≤ mostOperands) && decide (meth.sig.returnType = rt) && !meth.locks && decide (parseMethodDescriptor y.desc = some meth.sig)) = true) : (Jvm.Cond.code y bytes mx rt).before a s = true := by
  simp only [Bool.and_eq_true, beq_iff_eq, Bool.not_eq_true', decide_eq_true_eq] at h5
  obtain ⟨⟨⟨⟨⟨g1, g2⟩, g3⟩, g4⟩, g5⟩, g6⟩ := h5
  simp [Cond.before, Cond.holds, Cond.value, h1, h2, h3, h4, g1, g2, g3, g4, g5, g6]
def isCode : Jvm.Cond → Bool
  | .code _ _ _ _ => true
  | _ => false
theorem all_split {L : List Jvm.Cond} {P : Jvm.Cond → Bool} (h1 : L.all (fun c => isCode c || P c) = true) (h2 : ∀ c ∈ L.filter isCode, P c = true) : L.all P = true := by
  refine List.all_eq_true.mpr fun c hc => ?_
  have h := List.all_eq_true.mp h1 c hc
  rcases Bool.eq_false_or_eq_true (isCode c) with hi | hi
  · exact h2 c (List.mem_filter.mpr ⟨hc, hi⟩)
  · simpa [hi] using h
set_option maxRecDepth 65536 in
theorem w_c0 : (Jvm.Cond.code x code maxLocals ret).before args0 about1 = true := code_word (m := ⟨1, 2⟩) (meth := k1m2) (c := k1c2) (by decide +kernel) rfl rfl rfl (by decide +kernel)
set_option maxRecDepth 65536 in
theorem w_c1 : (Jvm.Cond.code ({ cls := "com/example/maco/maco/adapter/ControlThenPinLaw", name := "pick", desc := "(I)Lcom/example/maco/maco/adapter/SqlText$Control;" } : Jvm.MethodName) method_2_code (2 : Nat) (Option.some (Jvm.ClassFile.FieldType.object "com/example/maco/maco/adapter/SqlText$Control"))).before args0 about1 = true := code_word (m := ⟨1, 1⟩) (meth := k1m1) (c := k1c1) (by decide +kernel) rfl rfl rfl (by decide +kernel)
set_option maxRecDepth 65536 in
theorem w_c2 : (Jvm.Cond.code ({ cls := "com/example/maco/maco/adapter/SqlText$Control", name := "then", desc := "(Lcom/example/maco/maco/adapter/SqlText$Control;)Lcom/example/maco/maco/adapter/SqlText$Control;" } : Jvm.MethodName) prog_15_method_4_code (2 : Nat) (Option.some (Jvm.ClassFile.FieldType.object "com/example/maco/maco/adapter/SqlText$Control"))).before args0 about1 = true := code_word (m := ⟨6, 0⟩) (meth := k6m0) (c := k6c0) (by decide +kernel) rfl rfl rfl (by decide +kernel)
def codes1 : List Jvm.Cond := [Jvm.Cond.code x code maxLocals ret, Jvm.Cond.code ({ cls := "com/example/maco/maco/adapter/ControlThenPinLaw", name := "pick", desc := "(I)Lcom/example/maco/maco/adapter/SqlText$Control;" } : Jvm.MethodName) method_2_code (2 : Nat) (Option.some (Jvm.ClassFile.FieldType.object "com/example/maco/maco/adapter/SqlText$Control")), Jvm.Cond.code ({ cls := "com/example/maco/maco/adapter/SqlText$Control", name := "then", desc := "(Lcom/example/maco/maco/adapter/SqlText$Control;)Lcom/example/maco/maco/adapter/SqlText$Control;" } : Jvm.MethodName) prog_15_method_4_code (2 : Nat) (Option.some (Jvm.ClassFile.FieldType.object "com/example/maco/maco/adapter/SqlText$Control"))]
set_option maxRecDepth 65536 in
theorem codes_eq : words1.filter isCode = codes1 := rfl
theorem w_codes : ∀ c ∈ words1.filter isCode, c.before args0 about1 = true := by
  rw [codes_eq]
  intro c hc
  simp only [codes1, List.mem_cons, List.not_mem_nil, or_false] at hc
  rcases hc with rfl | rfl | rfl
  · exact w_c0
  · exact w_c1
  · exact w_c2
set_option maxRecDepth 65536 in
theorem w_t1 : words1.all (fun c => isCode c || c.before args0 about1) = true := by decide +kernel
theorem w_tables : (allAtoms (Jvm.Cond.code x code maxLocals ret :: tables_1)).before args0 about1 = true := by
  rw [allAtoms_all]
  show words1.all (fun c => c.before args0 about1) = true
  refine all_split ?_ w_codes
  rw [w_t1]
set_option maxRecDepth 65536 in
theorem w_case : (Jvm.Cond.and given_1 narrow_1).before args0 about1 = true := by decide +kernel
theorem w_applies : (headSpec (Jvm.Cond.code x code maxLocals ret :: tables_1) room_1).applies x e0.platform about1 = true :=
  (Spec.applies_iff w_frames).mpr ⟨w_running, w_runnable, w_alone, w_named, w_hears, w_ripe, w_room, w_tables⟩
theorem atStart : AtStart classFile x code maxLocals ret World_1 tables_1 room_1 Calls_1 rest_1 Pre_1 launch0 p0 e0 about1 theMethod args0 below0 :=
  ⟨lists_1, trivial, launch0.admits_env _ _ _, launch0.least_env, fairChoices_fair.cas, fairChoices_fair.clock, w_frames, w_args, w_heap, w_applies, trivial, trivial, w_case⟩
end start1
theorem witness_1 : WitnessClaimed_1 := ⟨start1.p0, start1.e0, start1.about1, start1.theMethod, start1.args0, start1.below0, start1.atStart⟩
end Jvm.Pilot.@@N@@

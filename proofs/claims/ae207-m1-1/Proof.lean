import JvmDerived
import JvmDerived.Pilot.@@N@@Statement
import JvmDerived.Pilot.@@N@@Code
set_option linter.unusedVariables false
set_option linter.unusedSimpArgs false
namespace Jvm.WK
open Jvm Sem ClassFile Op Lib Jvm.Free Jvm.Stand Jvm.LawKit Jvm.RoadKit
/-- the fixed surroundings of a walk: program, launch, environment, first state, method, arguments, frames below, method record, code record -/
abbrev Cx := Program × Launch × Env × State × MethodId × Array Value × List Frame × Method × Code
/-- FROM HERE THE BODY RUNS TO ITS RETURN, AND WHAT IT LEAVES MEETS Q: h the heap here, pc, Ls, st the top frame; cl, sl: what was made so far; only cells from n0 on are written. -/
def WP (C : Cx) (Z : State) (code : ByteArray) (ml : Nat) (own : String) (rt : Option FieldType) (nm : String) (R : Room) (n0 : Nat) (Q : Option Value → Heap → Prop) (cl sl : Nat) (h : Heap) (pc : Nat) (Ls : Array Slot) (st : List Value) : Prop :=
  C.1.tables.exec = Jvm.exec → C.2.2.2.2.2.2.2.2.code = code → C.2.2.2.2.2.2.2.2.maxLocals = ml → C.2.2.2.1.vm.findClass own = some C.2.2.2.2.1.cls → Z.Warmed39 C.2.2.2.1.vm → C.2.2.2.2.2.2.2.1.sig.returnType = rt → C.2.2.2.2.2.2.2.1.locks = false → C.2.2.2.2.2.2.2.1.name = nm →
  ∀ (T : State) (locs : List Loc), Stand C.1 C.2.1 C.2.2.1 R C.2.2.2.1 C.2.2.2.2.1 C.2.2.2.2.2.1 C.2.2.2.2.2.2.1 C.2.2.2.2.2.2.2.1 C.2.2.2.2.2.2.2.2 T locs cl sl → T.heap = h → Fr n0 locs →
    ∃ (s₂ : State) (v : Option Value) (L : List Loc), Steps C.1.tables C.2.2.1 C.2.2.2.2.2.2.1 (T.setTop (mkF C.2.2.2.2.1 pc Ls st)) s₂ ∧ s₂.status = .running ∧ Ended s₂ C.2.2.2.2.2.2.1 (.returned v) ∧ Q v s₂.heap ∧ Fr n0 L ∧ FrameEnd C.2.2.2.1 (.returned v) s₂ L R.cells R.slots
/-- WHAT A METHOD DOES FROM THE HEAP h0 WITH THE ARGUMENTS a -/
def Does (l : Launch) (Z : State) (y : MethodName) (code : ByteArray) (ml : Nat) (rt : Option FieldType) (R : Room) (n0 : Nat) (as' : Array Value) (h0 : Heap) (Q : Option Value → Heap → Prop) : Prop :=
  ∀ ws : List Jvm.Cond, MetFree l y (head1 (Jvm.Cond.code y code ml rt :: ws) R) (fun a U => a = as' ∧ Z.Warmed39 U.vm ∧ U.heap = h0) (fun _ _ _ _ _ => True)
    (fun _ U o U' => ∃ v L, o = .returned v ∧ (Q v U'.heap ∧ Fr n0 L) ∧ FrameEnd U o U' L R.cells R.slots)
theorem Does.of_wp {l : Launch} {Z : State} {y : MethodName} {code : ByteArray} {ml : Nat} {rt : Option FieldType} {R : Room} {n0 : Nat} {as' : Array Value} {h0 : Heap} {Q : Option Value → Heap → Prop} (hpl : plainFor y = true) {Ls : Array Slot} (hef : ∀ m, entryFrame m as' ml = mkF m 0 Ls [])
    (hW : ∀ C : Cx, WP C Z code ml y.cls rt y.name R n0 Q 0 0 h0 0 Ls []) : Does l Z y code ml rt R n0 as' h0 Q := by
  intro ws
  refine MetFree.of_bodySF hpl hisR ?_
  intro p e s m args below meth c s₁ Bd hml0 hP hK
  obtain ⟨rfl, hZ, hh⟩ := hP
  have X0 : Stand p l e R s m args below meth c s₁ [] 0 0 := Stand.of_body Bd
  have e0 : s₁.heap = h0 := by rw [← hh, Bd.state]; rfl
  obtain ⟨s₂, v, L, h1, h2, h3, h4, h5, h6⟩ := hW (p, l, e, s, m, args, below, meth, c) Bd.exec Bd.bytes hml0 (findClass_of_methodNamed Bd.named) hZ Bd.returns Bd.notSynchronized (name_of_methodNamed Bd.named Bd.method).1 s₁ [] X0 e0 (Fr.nil n0)
  exact ⟨s₂, _, castTop (hef m) h1, h2, h3, v, L, rfl, ⟨h4, h5⟩, h6⟩
section Rules
variable {C : Cx} {Z : State} {code : ByteArray} {ml : Nat} {own : String} {rt : Option FieldType} {nm : String} {R : Room} {n0 : Nat} {Q : Option Value → Heap → Prop} {cl sl : Nat} {h : Heap} {pc pc' : Nat} {Ls Ls' : Array Slot} {st st' : List Value} {a0 : Array Value}
theorem WP.step {cl' sl' : Nat} {h' : Heap} (f : ∀ {p : Program} {l : Launch} {e : Env} {s : State} {m : MethodId} {args : Array Value} {below : List Frame} {meth : Method} {c : Code} {T : State} {locs : List Loc}, Stand p l e R s m args below meth c T locs cl sl → p.tables.exec = Jvm.exec → c.code = code → c.maxLocals = ml → s.vm.findClass own = some m.cls → Z.Warmed39 s.vm → meth.name = nm → T.heap = h → Fr n0 locs →
      ∃ T' locs', Stand p l e R s m args below meth c T' locs' cl' sl' ∧ T'.heap = h' ∧ Fr n0 locs' ∧ ∀ t, Steps p.tables e below (T'.setTop (mkF m pc' Ls' st')) t → Steps p.tables e below (T.setTop (mkF m pc Ls st)) t)
    (hr : WP C Z code ml own rt nm R n0 Q cl' sl' h' pc' Ls' st') : WP C Z code ml own rt nm R n0 Q cl sl h pc Ls st := by
  intro k1 k2 k3 k4 k5 k6 k7 k8 T locs X e N
  obtain ⟨T', locs', X', e', N', k⟩ := f X k1 k2 k3 k4 k5 k8 e N
  obtain ⟨s₂, v, L, h1, h2⟩ := hr k1 k2 k3 k4 k5 k6 k7 k8 T' locs' X' e' N'
  exact ⟨s₂, v, L, k _ h1, h2⟩
theorem WP.pure (f : ∀ {p : Program} {l : Launch} {e : Env} {s : State} {m : MethodId} {args : Array Value} {below : List Frame} {meth : Method} {c : Code} {T : State} {locs : List Loc}, Stand p l e R s m args below meth c T locs cl sl → p.tables.exec = Jvm.exec → c.code = code → s.vm.findClass own = some m.cls → Z.Warmed39 s.vm → T.heap = h →
      ∀ t, Steps p.tables e below (T.setTop (mkF m pc' Ls' st')) t → Steps p.tables e below (T.setTop (mkF m pc Ls st)) t)
    (hr : WP C Z code ml own rt nm R n0 Q cl sl h pc' Ls' st') : WP C Z code ml own rt nm R n0 Q cl sl h pc Ls st :=
  WP.step (fun X hx hc _ ho hZ _ e N => ⟨_, _, X, e, N, f X hx hc ho hZ e⟩) hr
/-- the heap's name may be turned -/
theorem WP.cast {h' : Heap} (e : h = h') (hr : WP C Z code ml own rt nm R n0 Q cl sl h' pc Ls st) : WP C Z code ml own rt nm R n0 Q cl sl h pc Ls st := e ▸ hr
theorem WP.castS (e : st = st') (hr : WP C Z code ml own rt nm R n0 Q cl sl h pc Ls st') : WP C Z code ml own rt nm R n0 Q cl sl h pc Ls st := e ▸ hr
theorem WP.castL (e : Ls = Ls') (hr : WP C Z code ml own rt nm R n0 Q cl sl h pc Ls' st) : WP C Z code ml own rt nm R n0 Q cl sl h pc Ls st := e ▸ hr
theorem WP.iloadN {k : Fin 4} {v : Int32} (hd : decode code pc = .ok (.iload_n k, 1)) (hp : pc + 1 = pc') (hl : Ls[k.val]? = some (.val (.int v))) (hr : WP C Z code ml own rt nm R n0 Q cl sl h pc' Ls (.int v :: st)) : WP C Z code ml own rt nm R n0 Q cl sl h pc Ls st := by
  subst hp
  exact hr.pure fun X hx hby hown hZ eT t q => XS.iloadN X.here hx rfl (hb hby hd) hl q
theorem WP.iload {k : Nat} {v : Int32} (hd : decode code pc = .ok (.iload k, 2)) (hp : pc + 2 = pc') (hl : Ls[k]? = some (.val (.int v))) (hr : WP C Z code ml own rt nm R n0 Q cl sl h pc' Ls (.int v :: st)) : WP C Z code ml own rt nm R n0 Q cl sl h pc Ls st := by
  subst hp
  exact hr.pure fun X hx hby hown hZ eT t q => XS.iload X.here hx rfl (hb hby hd) hl q
theorem WP.lloadN {k : Fin 4} {v : Int64} (hd : decode code pc = .ok (.lload_n k, 1)) (hp : pc + 1 = pc') (hl : Ls[k.val]? = some (.val (.long v))) (hr : WP C Z code ml own rt nm R n0 Q cl sl h pc' Ls (.long v :: st)) : WP C Z code ml own rt nm R n0 Q cl sl h pc Ls st := by
  subst hp
  exact hr.pure fun X hx hby hown hZ eT t q => XS.lloadN X.here hx rfl (hb hby hd) hl q
theorem WP.lload {k : Nat} {v : Int64} (hd : decode code pc = .ok (.lload k, 2)) (hp : pc + 2 = pc') (hl : Ls[k]? = some (.val (.long v))) (hr : WP C Z code ml own rt nm R n0 Q cl sl h pc' Ls (.long v :: st)) : WP C Z code ml own rt nm R n0 Q cl sl h pc Ls st := by
  subst hp
  exact hr.pure fun X hx hby hown hZ eT t q => XS.lload X.here hx rfl (hb hby hd) hl q
theorem WP.dloadN {k : Fin 4} {v : UInt64} (hd : decode code pc = .ok (.dload_n k, 1)) (hp : pc + 1 = pc') (hl : Ls[k.val]? = some (.val (.double v))) (hr : WP C Z code ml own rt nm R n0 Q cl sl h pc' Ls (.double v :: st)) : WP C Z code ml own rt nm R n0 Q cl sl h pc Ls st := by
  subst hp
  exact hr.pure fun X hx hby hown hZ eT t q => XS.dloadN X.here hx rfl (hb hby hd) hl q
theorem WP.dload {k : Nat} {v : UInt64} (hd : decode code pc = .ok (.dload k, 2)) (hp : pc + 2 = pc') (hl : Ls[k]? = some (.val (.double v))) (hr : WP C Z code ml own rt nm R n0 Q cl sl h pc' Ls (.double v :: st)) : WP C Z code ml own rt nm R n0 Q cl sl h pc Ls st := by
  subst hp
  exact hr.pure fun X hx hby hown hZ eT t q => XS.dload X.here hx rfl (hb hby hd) hl q
theorem WP.aloadN {k : Fin 4} {v : Value} (hd : decode code pc = .ok (.aload_n k, 1)) (hp : pc + 1 = pc') (hl : Ls[k.val]? = some (.val v)) (hv : v.isRef = true) (hr : WP C Z code ml own rt nm R n0 Q cl sl h pc' Ls (v :: st)) : WP C Z code ml own rt nm R n0 Q cl sl h pc Ls st := by
  subst hp
  exact hr.pure fun X hx hby hown hZ eT t q => XS.aloadN X.here hx rfl (hb hby hd) hl hv q
theorem WP.aload {k : Nat} {v : Value} (hd : decode code pc = .ok (.aload k, 2)) (hp : pc + 2 = pc') (hl : Ls[k]? = some (.val v)) (hv : v.isRef = true) (hr : WP C Z code ml own rt nm R n0 Q cl sl h pc' Ls (v :: st)) : WP C Z code ml own rt nm R n0 Q cl sl h pc Ls st := by
  subst hp
  exact hr.pure fun X hx hby hown hZ eT t q => XS.aload X.here hx rfl (hb hby hd) hl hv q
theorem WP.istoreN {k : Fin 4} {v : Int32} (hd : decode code pc = .ok (.istore_n k, 1)) (hp : pc + 1 = pc') (hl : storeLocals Ls k.val (.int v) = some Ls') (hr : WP C Z code ml own rt nm R n0 Q cl sl h pc' Ls' st) : WP C Z code ml own rt nm R n0 Q cl sl h pc Ls (.int v :: st) := by
  subst hp
  exact hr.pure fun X hx hby hown hZ eT t q => XS.istoreN X.here hx rfl (hb hby hd) rfl hl q
theorem WP.istore {k : Nat} {v : Int32} (hd : decode code pc = .ok (.istore k, 2)) (hp : pc + 2 = pc') (hl : storeLocals Ls k (.int v) = some Ls') (hr : WP C Z code ml own rt nm R n0 Q cl sl h pc' Ls' st) : WP C Z code ml own rt nm R n0 Q cl sl h pc Ls (.int v :: st) := by
  subst hp
  exact hr.pure fun X hx hby hown hZ eT t q => XS.istore X.here hx rfl (hb hby hd) rfl hl q
theorem WP.lstoreN {k : Fin 4} {v : Int64} (hd : decode code pc = .ok (.lstore_n k, 1)) (hp : pc + 1 = pc') (hl : storeLocals Ls k.val (.long v) = some Ls') (hr : WP C Z code ml own rt nm R n0 Q cl sl h pc' Ls' st) : WP C Z code ml own rt nm R n0 Q cl sl h pc Ls (.long v :: st) := by
  subst hp
  exact hr.pure fun X hx hby hown hZ eT t q => XS.lstoreN X.here hx rfl (hb hby hd) rfl hl q
theorem WP.lstore {k : Nat} {v : Int64} (hd : decode code pc = .ok (.lstore k, 2)) (hp : pc + 2 = pc') (hl : storeLocals Ls k (.long v) = some Ls') (hr : WP C Z code ml own rt nm R n0 Q cl sl h pc' Ls' st) : WP C Z code ml own rt nm R n0 Q cl sl h pc Ls (.long v :: st) := by
  subst hp
  exact hr.pure fun X hx hby hown hZ eT t q => XS.lstore X.here hx rfl (hb hby hd) rfl hl q
theorem WP.dstoreN {k : Fin 4} {v : UInt64} (hd : decode code pc = .ok (.dstore_n k, 1)) (hp : pc + 1 = pc') (hl : storeLocals Ls k.val (.double v) = some Ls') (hr : WP C Z code ml own rt nm R n0 Q cl sl h pc' Ls' st) : WP C Z code ml own rt nm R n0 Q cl sl h pc Ls (.double v :: st) := by
  subst hp
  exact hr.pure fun X hx hby hown hZ eT t q => XS.dstoreN X.here hx rfl (hb hby hd) rfl hl q
theorem WP.dstore {k : Nat} {v : UInt64} (hd : decode code pc = .ok (.dstore k, 2)) (hp : pc + 2 = pc') (hl : storeLocals Ls k (.double v) = some Ls') (hr : WP C Z code ml own rt nm R n0 Q cl sl h pc' Ls' st) : WP C Z code ml own rt nm R n0 Q cl sl h pc Ls (.double v :: st) := by
  subst hp
  exact hr.pure fun X hx hby hown hZ eT t q => XS.dstore X.here hx rfl (hb hby hd) rfl hl q
theorem WP.astoreN {k : Fin 4} {v : Value} (hd : decode code pc = .ok (.astore_n k, 1)) (hp : pc + 1 = pc') (hv : v.isRef = true) (hl : storeLocals Ls k.val v = some Ls') (hr : WP C Z code ml own rt nm R n0 Q cl sl h pc' Ls' st) : WP C Z code ml own rt nm R n0 Q cl sl h pc Ls (v :: st) := by
  subst hp
  exact hr.pure fun X hx hby hown hZ eT t q => XS.astoreN X.here hx rfl (hb hby hd) rfl hv hl q
theorem WP.astore {k : Nat} {v : Value} (hd : decode code pc = .ok (.astore k, 2)) (hp : pc + 2 = pc') (hv : v.isRef = true) (hl : storeLocals Ls k v = some Ls') (hr : WP C Z code ml own rt nm R n0 Q cl sl h pc' Ls' st) : WP C Z code ml own rt nm R n0 Q cl sl h pc Ls (v :: st) := by
  subst hp
  exact hr.pure fun X hx hby hown hZ eT t q => XS.astore X.here hx rfl (hb hby hd) rfl hv hl q
theorem WP.iconst {i : Int} {z : Int32} (hd : decode code pc = .ok (.iconst i, 1)) (hp : pc + 1 = pc') (hz : Int32.ofInt i = z) (hr : WP C Z code ml own rt nm R n0 Q cl sl h pc' Ls (.int z :: st)) : WP C Z code ml own rt nm R n0 Q cl sl h pc Ls st := by
  subst hp
  subst hz
  exact hr.pure fun X hx hby hown hZ eT t q => XS.iconst X.here hx rfl (hb hby hd) q
theorem WP.bipush {i : Int} {z : Int32} (hd : decode code pc = .ok (.bipush i, 2)) (hp : pc + 2 = pc') (hz : (Int8.ofInt i).toInt32 = z) (hr : WP C Z code ml own rt nm R n0 Q cl sl h pc' Ls (.int z :: st)) : WP C Z code ml own rt nm R n0 Q cl sl h pc Ls st := by
  subst hp
  subst hz
  exact hr.pure fun X hx hby hown hZ eT t q => XS.bipush X.here hx rfl (hb hby hd) q
theorem WP.sipush {i : Int} {z : Int32} (hd : decode code pc = .ok (.sipush i, 3)) (hp : pc + 3 = pc') (hz : (Int16.ofInt i).toInt32 = z) (hr : WP C Z code ml own rt nm R n0 Q cl sl h pc' Ls (.int z :: st)) : WP C Z code ml own rt nm R n0 Q cl sl h pc Ls st := by
  subst hp
  subst hz
  exact hr.pure fun X hx hby hown hZ eT t q => XS.sipush X.here hx rfl (hb hby hd) q
theorem WP.lconst {k : Fin 2} {z : Int64} (hd : decode code pc = .ok (.lconst k, 1)) (hp : pc + 1 = pc') (hz : Int64.ofNat k = z) (hr : WP C Z code ml own rt nm R n0 Q cl sl h pc' Ls (.long z :: st)) : WP C Z code ml own rt nm R n0 Q cl sl h pc Ls st := by
  subst hp
  subst hz
  exact hr.pure fun X hx hby hown hZ eT t q => XS.lconst X.here hx rfl (hb hby hd) q
theorem WP.aconstNull  (hd : decode code pc = .ok (.aconst_null, 1)) (hp : pc + 1 = pc') (hr : WP C Z code ml own rt nm R n0 Q cl sl h pc' Ls (.null :: st)) : WP C Z code ml own rt nm R n0 Q cl sl h pc Ls st := by
  subst hp
  exact hr.pure fun X hx hby hown hZ eT t q => XS.aconstNull X.here hx rfl (hb hby hd) q
theorem WP.ldcI {i : Nat} {v : Int32} (hd : decode code pc = .ok (.ldc i, 2)) (hp : pc + 2 = pc') (w : (Jvm.Cond.constant own i v).before a0 Z = true) (hr : WP C Z code ml own rt nm R n0 Q cl sl h pc' Ls (.int v :: st)) : WP C Z code ml own rt nm R n0 Q cl sl h pc Ls st := by
  subst hp
  exact hr.pure fun X hx hby hown hZ eT t q => X.ldcInt hx hown (mvT hZ w) (g := mkF _ pc Ls st) rfl (hb hby hd) t q
theorem WP.ldcWI {i : Nat} {v : Int32} (hd : decode code pc = .ok (.ldc_w i, 3)) (hp : pc + 3 = pc') (w : (Jvm.Cond.constant own i v).before a0 Z = true) (hr : WP C Z code ml own rt nm R n0 Q cl sl h pc' Ls (.int v :: st)) : WP C Z code ml own rt nm R n0 Q cl sl h pc Ls st := by
  subst hp
  exact hr.pure fun X hx hby hown hZ eT t q => X.ldcWInt hx hown (mvT hZ w) (g := mkF _ pc Ls st) rfl (hb hby hd) t q
theorem WP.ldc2J {i : Nat} {v : Int64} (hd : decode code pc = .ok (.ldc2_w i, 3)) (hp : pc + 3 = pc') (w : (Jvm.Cond.constantLong own i v).before a0 Z = true) (hr : WP C Z code ml own rt nm R n0 Q cl sl h pc' Ls (.long v :: st)) : WP C Z code ml own rt nm R n0 Q cl sl h pc Ls st := by
  subst hp
  exact hr.pure fun X hx hby hown hZ eT t q => X.ldc2Long hx hown (mvT hZ w) (g := mkF _ pc Ls st) rfl (hb hby hd) t q
theorem WP.iadd {x y : Int32} (hd : decode code pc = .ok (.iadd, 1)) (hp : pc + 1 = pc') (hr : WP C Z code ml own rt nm R n0 Q cl sl h pc' Ls (.int (x + y) :: st)) : WP C Z code ml own rt nm R n0 Q cl sl h pc Ls (.int y :: .int x :: st) := by
  subst hp
  exact hr.pure fun X hx hby hown hZ eT t q => XS.iadd X.here hx rfl (hb hby hd) rfl q
theorem WP.isub {x y : Int32} (hd : decode code pc = .ok (.isub, 1)) (hp : pc + 1 = pc') (hr : WP C Z code ml own rt nm R n0 Q cl sl h pc' Ls (.int (x - y) :: st)) : WP C Z code ml own rt nm R n0 Q cl sl h pc Ls (.int y :: .int x :: st) := by
  subst hp
  exact hr.pure fun X hx hby hown hZ eT t q => XS.isub X.here hx rfl (hb hby hd) rfl q
theorem WP.imul {x y : Int32} (hd : decode code pc = .ok (.imul, 1)) (hp : pc + 1 = pc') (hr : WP C Z code ml own rt nm R n0 Q cl sl h pc' Ls (.int (x * y) :: st)) : WP C Z code ml own rt nm R n0 Q cl sl h pc Ls (.int y :: .int x :: st) := by
  subst hp
  exact hr.pure fun X hx hby hown hZ eT t q => XS.imul X.here hx rfl (hb hby hd) rfl q
theorem WP.iand {x y : Int32} (hd : decode code pc = .ok (.iand, 1)) (hp : pc + 1 = pc') (hr : WP C Z code ml own rt nm R n0 Q cl sl h pc' Ls (.int (x &&& y) :: st)) : WP C Z code ml own rt nm R n0 Q cl sl h pc Ls (.int y :: .int x :: st) := by
  subst hp
  exact hr.pure fun X hx hby hown hZ eT t q => XS.iand X.here hx rfl (hb hby hd) rfl q
theorem WP.ior {x y : Int32} (hd : decode code pc = .ok (.ior, 1)) (hp : pc + 1 = pc') (hr : WP C Z code ml own rt nm R n0 Q cl sl h pc' Ls (.int (x ||| y) :: st)) : WP C Z code ml own rt nm R n0 Q cl sl h pc Ls (.int y :: .int x :: st) := by
  subst hp
  exact hr.pure fun X hx hby hown hZ eT t q => XS.ior X.here hx rfl (hb hby hd) rfl q
theorem WP.ixor {x y : Int32} (hd : decode code pc = .ok (.ixor, 1)) (hp : pc + 1 = pc') (hr : WP C Z code ml own rt nm R n0 Q cl sl h pc' Ls (.int (x ^^^ y) :: st)) : WP C Z code ml own rt nm R n0 Q cl sl h pc Ls (.int y :: .int x :: st) := by
  subst hp
  exact hr.pure fun X hx hby hown hZ eT t q => XS.ixor X.here hx rfl (hb hby hd) rfl q
theorem WP.ishl {x y : Int32} (hd : decode code pc = .ok (.ishl, 1)) (hp : pc + 1 = pc') (hr : WP C Z code ml own rt nm R n0 Q cl sl h pc' Ls (.int (x <<< (y &&& 31)) :: st)) : WP C Z code ml own rt nm R n0 Q cl sl h pc Ls (.int y :: .int x :: st) := by
  subst hp
  exact hr.pure fun X hx hby hown hZ eT t q => XS.ishl X.here hx rfl (hb hby hd) rfl q
theorem WP.ishr {x y : Int32} (hd : decode code pc = .ok (.ishr, 1)) (hp : pc + 1 = pc') (hr : WP C Z code ml own rt nm R n0 Q cl sl h pc' Ls (.int (x >>> (y &&& 31)) :: st)) : WP C Z code ml own rt nm R n0 Q cl sl h pc Ls (.int y :: .int x :: st) := by
  subst hp
  exact hr.pure fun X hx hby hown hZ eT t q => XS.ishr X.here hx rfl (hb hby hd) rfl q
theorem WP.iushr {x y : Int32} (hd : decode code pc = .ok (.iushr, 1)) (hp : pc + 1 = pc') (hr : WP C Z code ml own rt nm R n0 Q cl sl h pc' Ls (.int ((x.toUInt32 >>> (y &&& 31).toUInt32).toInt32) :: st)) : WP C Z code ml own rt nm R n0 Q cl sl h pc Ls (.int y :: .int x :: st) := by
  subst hp
  exact hr.pure fun X hx hby hown hZ eT t q => XS.iushr X.here hx rfl (hb hby hd) rfl q
theorem WP.ladd {x y : Int64} (hd : decode code pc = .ok (.ladd, 1)) (hp : pc + 1 = pc') (hr : WP C Z code ml own rt nm R n0 Q cl sl h pc' Ls (.long (x + y) :: st)) : WP C Z code ml own rt nm R n0 Q cl sl h pc Ls (.long y :: .long x :: st) := by
  subst hp
  exact hr.pure fun X hx hby hown hZ eT t q => XS.ladd X.here hx rfl (hb hby hd) rfl q
theorem WP.lsub {x y : Int64} (hd : decode code pc = .ok (.lsub, 1)) (hp : pc + 1 = pc') (hr : WP C Z code ml own rt nm R n0 Q cl sl h pc' Ls (.long (x - y) :: st)) : WP C Z code ml own rt nm R n0 Q cl sl h pc Ls (.long y :: .long x :: st) := by
  subst hp
  exact hr.pure fun X hx hby hown hZ eT t q => XS.lsub X.here hx rfl (hb hby hd) rfl q
theorem WP.lmul {x y : Int64} (hd : decode code pc = .ok (.lmul, 1)) (hp : pc + 1 = pc') (hr : WP C Z code ml own rt nm R n0 Q cl sl h pc' Ls (.long (x * y) :: st)) : WP C Z code ml own rt nm R n0 Q cl sl h pc Ls (.long y :: .long x :: st) := by
  subst hp
  exact hr.pure fun X hx hby hown hZ eT t q => XS.lmul X.here hx rfl (hb hby hd) rfl q
theorem WP.land {x y : Int64} (hd : decode code pc = .ok (.land, 1)) (hp : pc + 1 = pc') (hr : WP C Z code ml own rt nm R n0 Q cl sl h pc' Ls (.long (x &&& y) :: st)) : WP C Z code ml own rt nm R n0 Q cl sl h pc Ls (.long y :: .long x :: st) := by
  subst hp
  exact hr.pure fun X hx hby hown hZ eT t q => XS.land X.here hx rfl (hb hby hd) rfl q
theorem WP.lor {x y : Int64} (hd : decode code pc = .ok (.lor, 1)) (hp : pc + 1 = pc') (hr : WP C Z code ml own rt nm R n0 Q cl sl h pc' Ls (.long (x ||| y) :: st)) : WP C Z code ml own rt nm R n0 Q cl sl h pc Ls (.long y :: .long x :: st) := by
  subst hp
  exact hr.pure fun X hx hby hown hZ eT t q => XS.lor X.here hx rfl (hb hby hd) rfl q
theorem WP.lxor {x y : Int64} (hd : decode code pc = .ok (.lxor, 1)) (hp : pc + 1 = pc') (hr : WP C Z code ml own rt nm R n0 Q cl sl h pc' Ls (.long (x ^^^ y) :: st)) : WP C Z code ml own rt nm R n0 Q cl sl h pc Ls (.long y :: .long x :: st) := by
  subst hp
  exact hr.pure fun X hx hby hown hZ eT t q => XS.lxor X.here hx rfl (hb hby hd) rfl q
theorem WP.lshl {x : Int64} {y : Int32} (hd : decode code pc = .ok (.lshl, 1)) (hp : pc + 1 = pc') (hr : WP C Z code ml own rt nm R n0 Q cl sl h pc' Ls (.long (x <<< (y &&& 0x3f).toInt64) :: st)) : WP C Z code ml own rt nm R n0 Q cl sl h pc Ls (.int y :: .long x :: st) := by
  subst hp
  exact hr.pure fun X hx hby hown hZ eT t q => XS.lshl X.here hx rfl (hb hby hd) rfl q
theorem WP.lshr {x : Int64} {y : Int32} (hd : decode code pc = .ok (.lshr, 1)) (hp : pc + 1 = pc') (hr : WP C Z code ml own rt nm R n0 Q cl sl h pc' Ls (.long (x >>> (y &&& 0x3f).toInt64) :: st)) : WP C Z code ml own rt nm R n0 Q cl sl h pc Ls (.int y :: .long x :: st) := by
  subst hp
  exact hr.pure fun X hx hby hown hZ eT t q => XS.lshr X.here hx rfl (hb hby hd) rfl q
theorem WP.lushr {x : Int64} {y : Int32} (hd : decode code pc = .ok (.lushr, 1)) (hp : pc + 1 = pc') (hr : WP C Z code ml own rt nm R n0 Q cl sl h pc' Ls (.long ((x.toUInt64 >>> (y &&& 0x3f).toInt64.toUInt64).toInt64) :: st)) : WP C Z code ml own rt nm R n0 Q cl sl h pc Ls (.int y :: .long x :: st) := by
  subst hp
  exact hr.pure fun X hx hby hown hZ eT t q => XS.lushr X.here hx rfl (hb hby hd) rfl q
theorem WP.idiv {x y : Int32} (hd : decode code pc = .ok (.idiv, 1)) (hp : pc + 1 = pc') (hy : y ≠ 0) (hr : WP C Z code ml own rt nm R n0 Q cl sl h pc' Ls (.int (x / y) :: st)) : WP C Z code ml own rt nm R n0 Q cl sl h pc Ls (.int y :: .int x :: st) := by
  subst hp
  exact hr.pure fun X hx hby hown hZ eT t q => XS.idiv X.here hx rfl (hb hby hd) rfl hy q
theorem WP.irem {x y : Int32} (hd : decode code pc = .ok (.irem, 1)) (hp : pc + 1 = pc') (hy : y ≠ 0) (hr : WP C Z code ml own rt nm R n0 Q cl sl h pc' Ls (.int (x % y) :: st)) : WP C Z code ml own rt nm R n0 Q cl sl h pc Ls (.int y :: .int x :: st) := by
  subst hp
  exact hr.pure fun X hx hby hown hZ eT t q => iremM X hx rfl (hb hby hd) rfl hy q
theorem WP.ldiv {x y : Int64} (hd : decode code pc = .ok (.ldiv, 1)) (hp : pc + 1 = pc') (hy : y ≠ 0) (hr : WP C Z code ml own rt nm R n0 Q cl sl h pc' Ls (.long (x / y) :: st)) : WP C Z code ml own rt nm R n0 Q cl sl h pc Ls (.long y :: .long x :: st) := by
  subst hp
  exact hr.pure fun X hx hby hown hZ eT t q => XS.ldiv X.here hx rfl (hb hby hd) rfl hy q
theorem WP.lrem {x y : Int64} (hd : decode code pc = .ok (.lrem, 1)) (hp : pc + 1 = pc') (hy : y ≠ 0) (hr : WP C Z code ml own rt nm R n0 Q cl sl h pc' Ls (.long (x % y) :: st)) : WP C Z code ml own rt nm R n0 Q cl sl h pc Ls (.long y :: .long x :: st) := by
  subst hp
  exact hr.pure fun X hx hby hown hZ eT t q => XS.lrem X.here hx rfl (hb hby hd) rfl hy (by rw [lrem_mod]; exact q)
theorem WP.ineg {x : Int32} (hd : decode code pc = .ok (.ineg, 1)) (hp : pc + 1 = pc') (hr : WP C Z code ml own rt nm R n0 Q cl sl h pc' Ls (.int (-x) :: st)) : WP C Z code ml own rt nm R n0 Q cl sl h pc Ls (.int x :: st) := by
  subst hp
  exact hr.pure fun X hx hby hown hZ eT t q => XS.ineg X.here hx rfl (hb hby hd) rfl q
theorem WP.lneg {x : Int64} (hd : decode code pc = .ok (.lneg, 1)) (hp : pc + 1 = pc') (hr : WP C Z code ml own rt nm R n0 Q cl sl h pc' Ls (.long (-x) :: st)) : WP C Z code ml own rt nm R n0 Q cl sl h pc Ls (.long x :: st) := by
  subst hp
  exact hr.pure fun X hx hby hown hZ eT t q => XS.lneg X.here hx rfl (hb hby hd) rfl q
theorem WP.i2l {x : Int32} (hd : decode code pc = .ok (.i2l, 1)) (hp : pc + 1 = pc') (hr : WP C Z code ml own rt nm R n0 Q cl sl h pc' Ls (.long (x.toInt64) :: st)) : WP C Z code ml own rt nm R n0 Q cl sl h pc Ls (.int x :: st) := by
  subst hp
  exact hr.pure fun X hx hby hown hZ eT t q => XS.i2l X.here hx rfl (hb hby hd) rfl q
theorem WP.l2i {x : Int64} (hd : decode code pc = .ok (.l2i, 1)) (hp : pc + 1 = pc') (hr : WP C Z code ml own rt nm R n0 Q cl sl h pc' Ls (.int (x.toInt32) :: st)) : WP C Z code ml own rt nm R n0 Q cl sl h pc Ls (.long x :: st) := by
  subst hp
  exact hr.pure fun X hx hby hown hZ eT t q => XS.l2i X.here hx rfl (hb hby hd) rfl q
theorem WP.i2b {x : Int32} (hd : decode code pc = .ok (.i2b, 1)) (hp : pc + 1 = pc') (hr : WP C Z code ml own rt nm R n0 Q cl sl h pc' Ls (.int (x.toInt8.toInt32) :: st)) : WP C Z code ml own rt nm R n0 Q cl sl h pc Ls (.int x :: st) := by
  subst hp
  exact hr.pure fun X hx hby hown hZ eT t q => XS.i2b X.here hx rfl (hb hby hd) rfl q
theorem WP.i2c {x : Int32} (hd : decode code pc = .ok (.i2c, 1)) (hp : pc + 1 = pc') (hr : WP C Z code ml own rt nm R n0 Q cl sl h pc' Ls (.int (x.toUInt32.toUInt16.toUInt32.toInt32) :: st)) : WP C Z code ml own rt nm R n0 Q cl sl h pc Ls (.int x :: st) := by
  subst hp
  exact hr.pure fun X hx hby hown hZ eT t q => XS.i2c X.here hx rfl (hb hby hd) rfl q
theorem WP.i2s {x : Int32} (hd : decode code pc = .ok (.i2s, 1)) (hp : pc + 1 = pc') (hr : WP C Z code ml own rt nm R n0 Q cl sl h pc' Ls (.int (x.toInt16.toInt32) :: st)) : WP C Z code ml own rt nm R n0 Q cl sl h pc Ls (.int x :: st) := by
  subst hp
  exact hr.pure fun X hx hby hown hZ eT t q => XS.i2s X.here hx rfl (hb hby hd) rfl q
theorem WP.dup {x : Value} (hd : decode code pc = .ok (.dup, 1)) (hp : pc + 1 = pc') (hc : x.category = 1) (hr : WP C Z code ml own rt nm R n0 Q cl sl h pc' Ls (x :: x :: st)) : WP C Z code ml own rt nm R n0 Q cl sl h pc Ls (x :: st) := by
  subst hp
  exact hr.pure fun X hx hby hown hZ eT t q => XS.dup X.here hx rfl (hb hby hd) rfl hc q
theorem WP.pop {x : Value} (hd : decode code pc = .ok (.pop, 1)) (hp : pc + 1 = pc') (hc : x.category = 1) (hr : WP C Z code ml own rt nm R n0 Q cl sl h pc' Ls st) : WP C Z code ml own rt nm R n0 Q cl sl h pc Ls (x :: st) := by
  subst hp
  exact hr.pure fun X hx hby hown hZ eT t q => XS.pop X.here hx rfl (hb hby hd) rfl hc q
theorem WP.dupX1 {x y : Value} (hd : decode code pc = .ok (.dup_x1, 1)) (hp : pc + 1 = pc') (hc : x.category = 1) (hc' : y.category = 1) (hr : WP C Z code ml own rt nm R n0 Q cl sl h pc' Ls (x :: y :: x :: st)) : WP C Z code ml own rt nm R n0 Q cl sl h pc Ls (x :: y :: st) := by
  subst hp
  exact hr.pure fun X hx hby hown hZ eT t q => XS.dupX1 X.here hx rfl (hb hby hd) rfl hc hc' q
theorem WP.dup2 {x y : Value} (hd : decode code pc = .ok (.dup2, 1)) (hp : pc + 1 = pc') (hc : x.category = 1) (hc' : y.category = 1) (hr : WP C Z code ml own rt nm R n0 Q cl sl h pc' Ls (x :: y :: x :: y :: st)) : WP C Z code ml own rt nm R n0 Q cl sl h pc Ls (x :: y :: st) := by
  subst hp
  exact hr.pure fun X hx hby hown hZ eT t q => Jvm.Free.XT.dup2 X.here hx rfl (hb hby hd) rfl hc hc' q
theorem WP.dup2L {x : Int64} (hd : decode code pc = .ok (.dup2, 1)) (hp : pc + 1 = pc') (hr : WP C Z code ml own rt nm R n0 Q cl sl h pc' Ls (.long x :: .long x :: st)) : WP C Z code ml own rt nm R n0 Q cl sl h pc Ls (.long x :: st) := by
  subst hp
  exact hr.pure fun X hx hby hown hZ eT t q => Jvm.Free.XT.dup2L X.here hx rfl (hb hby hd) rfl q
theorem WP.iinc {k : Nat} {i : Int} {x z : Int32} (hd : decode code pc = .ok (.iinc k i, 3)) (hp : pc + 3 = pc') (hl : Ls[k]? = some (.val (.int x))) (hz : x + Int32.ofInt i = z) (hl' : storeLocals Ls k (.int z) = some Ls') (hr : WP C Z code ml own rt nm R n0 Q cl sl h pc' Ls' st) : WP C Z code ml own rt nm R n0 Q cl sl h pc Ls st := by
  subst hp
  subst hz
  exact hr.pure fun X hx hby hown hZ eT t q => XS.iinc X.here hx rfl (hb hby hd) hl hl' q
theorem WP.ldc2D {i : Nat} {v : UInt64} (hd : decode code pc = .ok (.ldc2_w i, 3)) (hp : pc + 3 = pc') (w : (Jvm.Cond.constantDouble own i v).before a0 Z = true) (hr : WP C Z code ml own rt nm R n0 Q cl sl h pc' Ls (.double v :: st)) : WP C Z code ml own rt nm R n0 Q cl sl h pc Ls st := by
  subst hp
  exact hr.pure fun X hx hby hown hZ eT t q => X.ldc2DoubleC hx hown (mvT hZ w) (g := mkF _ pc Ls st) rfl (hb hby hd) t q
theorem WP.dconst0 {v : UInt64} (hd : decode code pc = .ok (.dconst 0, 1)) (hp : pc + 1 = pc') (hv : FP.dconst0 = v) (hr : WP C Z code ml own rt nm R n0 Q cl sl h pc' Ls (.double v :: st)) : WP C Z code ml own rt nm R n0 Q cl sl h pc Ls st := by
  subst hp
  exact hr.pure fun X hx hby hown hZ eT t q => XS.dconst0 X.here hx rfl (hb hby hd) hv q
theorem WP.dconst1 {v : UInt64} (hd : decode code pc = .ok (.dconst 1, 1)) (hp : pc + 1 = pc') (hv : FP.dconst1 = v) (hr : WP C Z code ml own rt nm R n0 Q cl sl h pc' Ls (.double v :: st)) : WP C Z code ml own rt nm R n0 Q cl sl h pc Ls st := by
  subst hp
  exact hr.pure fun X hx hby hown hZ eT t q => XS.dconst1 X.here hx rfl (hb hby hd) hv q
theorem WP.i2d {x : Int32} {v : UInt64} (hd : decode code pc = .ok (.i2d, 1)) (hp : pc + 1 = pc') (hv : FP.i2d x = v) (hr : WP C Z code ml own rt nm R n0 Q cl sl h pc' Ls (.double v :: st)) : WP C Z code ml own rt nm R n0 Q cl sl h pc Ls (.int x :: st) := by
  subst hp
  exact hr.pure fun X hx hby hown hZ eT t q => XS.i2dS X.here hx rfl (hb hby hd) rfl hv q
theorem WP.l2d {x : Int64} {v : UInt64} (hd : decode code pc = .ok (.l2d, 1)) (hp : pc + 1 = pc') (hv : FP.l2d x = v) (hr : WP C Z code ml own rt nm R n0 Q cl sl h pc' Ls (.double v :: st)) : WP C Z code ml own rt nm R n0 Q cl sl h pc Ls (.long x :: st) := by
  subst hp
  exact hr.pure fun X hx hby hown hZ eT t q => XS.l2dS X.here hx rfl (hb hby hd) rfl hv q
theorem WP.dcmp {o : CmpOp} {x y : UInt64} {v : Int32} (hd : decode code pc = .ok (.dcmp o, 1)) (hp : pc + 1 = pc') (hv : cmpValue (FP.dcmp x y) o = v) (hr : WP C Z code ml own rt nm R n0 Q cl sl h pc' Ls (.int v :: st)) : WP C Z code ml own rt nm R n0 Q cl sl h pc Ls (.double y :: .double x :: st) := by
  subst hp
  exact hr.pure fun X hx hby hown hZ eT t q => XS.dcmpS X.here hx rfl (hb hby hd) rfl hv q
theorem WP.dadd {x y v : UInt64} (hd : decode code pc = .ok (.dadd, 1)) (hp : pc + 1 = pc') (hn : Jvm.Free.Fl.NoNaN64 (FP.dadd x y)) (hv : FP.dadd x y = v) (hr : WP C Z code ml own rt nm R n0 Q cl sl h pc' Ls (.double v :: st)) : WP C Z code ml own rt nm R n0 Q cl sl h pc Ls (.double y :: .double x :: st) := by
  subst hp
  exact hr.pure fun X hx hby hown hZ eT t q => XS.daddS X.here hx rfl (hb hby hd) rfl hn hv q
theorem WP.dsub {x y v : UInt64} (hd : decode code pc = .ok (.dsub, 1)) (hp : pc + 1 = pc') (hn : Jvm.Free.Fl.NoNaN64 (FP.dsub x y)) (hv : FP.dsub x y = v) (hr : WP C Z code ml own rt nm R n0 Q cl sl h pc' Ls (.double v :: st)) : WP C Z code ml own rt nm R n0 Q cl sl h pc Ls (.double y :: .double x :: st) := by
  subst hp
  exact hr.pure fun X hx hby hown hZ eT t q => XS.dsubS X.here hx rfl (hb hby hd) rfl hn hv q
theorem WP.dmul {x y v : UInt64} (hd : decode code pc = .ok (.dmul, 1)) (hp : pc + 1 = pc') (hn : Jvm.Free.Fl.NoNaN64 (FP.dmul x y)) (hv : FP.dmul x y = v) (hr : WP C Z code ml own rt nm R n0 Q cl sl h pc' Ls (.double v :: st)) : WP C Z code ml own rt nm R n0 Q cl sl h pc Ls (.double y :: .double x :: st) := by
  subst hp
  exact hr.pure fun X hx hby hown hZ eT t q => XS.dmulS X.here hx rfl (hb hby hd) rfl hn hv q
theorem WP.ddiv {x y v : UInt64} (hd : decode code pc = .ok (.ddiv, 1)) (hp : pc + 1 = pc') (hn : Jvm.Free.Fl.NoNaN64 (FP.ddiv x y)) (hv : FP.ddiv x y = v) (hr : WP C Z code ml own rt nm R n0 Q cl sl h pc' Ls (.double v :: st)) : WP C Z code ml own rt nm R n0 Q cl sl h pc Ls (.double y :: .double x :: st) := by
  subst hp
  exact hr.pure fun X hx hby hown hZ eT t q => XS.ddivS X.here hx rfl (hb hby hd) rfl hn hv q
theorem WP.lcmp {x y : Int64} (hd : decode code pc = .ok (.lcmp, 1)) (hp : pc + 1 = pc') (hr : WP C Z code ml own rt nm R n0 Q cl sl h pc' Ls (.int (lcmpW x y) :: st)) : WP C Z code ml own rt nm R n0 Q cl sl h pc Ls (.long y :: .long x :: st) := by
  subst hp
  exact hr.pure fun X hx hby hown hZ eT t q => XS.lcmp X.here hx rfl (hb hby hd) rfl q
theorem WP.goto {o : Int} (hd : decode code pc = .ok (.goto o, 3)) (ho : 0 ≤ (pc : Int) + o) (hp : ((pc : Int) + o).toNat = pc') (hr : WP C Z code ml own rt nm R n0 Q cl sl h pc' Ls st) : WP C Z code ml own rt nm R n0 Q cl sl h pc Ls st :=
  hr.pure fun X hx hby hown hZ eT t q => XS.goto X.here hx rfl (pc0 := pc) rfl (hb hby hd) ho hp q
theorem WP.icmp {pc1 pc2 : Nat} {x y : Int32} {cd : ClassFile.Cond} {o : Int} (hd : decode code pc = .ok (.if_icmp cd o, 3)) (ho : 0 ≤ (pc : Int) + o) (hp : ((pc : Int) + o).toNat = pc1) (hp2 : pc + 3 = pc2) (hy : if_icmp.holds cd x y = true → WP C Z code ml own rt nm R n0 Q cl sl h pc1 Ls st) (hn : if_icmp.holds cd x y = false → WP C Z code ml own rt nm R n0 Q cl sl h pc2 Ls st) : WP C Z code ml own rt nm R n0 Q cl sl h pc Ls (.int y :: .int x :: st) := by
  subst hp2
  cases hq : if_icmp.holds cd x y with
  | true => exact (hy hq).pure fun X hx hby hown hZ eT t q => XS.icmpYes X.here hx rfl (pc0 := pc) rfl (hb hby hd) rfl hq ho hp q
  | false => exact (hn hq).pure fun X hx hby hown hZ eT t q => XS.icmpNo X.here hx rfl (hb hby hd) rfl hq q
theorem WP.icmp_lt {pc1 pc2 : Nat} {x y : Int32} {o : Int} (hd : decode code pc = .ok (.if_icmp .lt o, 3)) (ho : 0 ≤ (pc : Int) + o) (hp : ((pc : Int) + o).toNat = pc1) (hp2 : pc + 3 = pc2) (hy : x < y → WP C Z code ml own rt nm R n0 Q cl sl h pc1 Ls st) (hn : ¬ x < y → WP C Z code ml own rt nm R n0 Q cl sl h pc2 Ls st) : WP C Z code ml own rt nm R n0 Q cl sl h pc Ls (.int y :: .int x :: st) :=
  WP.icmp hd ho hp hp2 (fun hq => hy (Decidable.byContradiction fun k => by rw [(flt k).1] at hq; cases hq)) (fun hq => hn (fun k => by rw [(tlt k).1] at hq; cases hq))
theorem WP.icmp_ge {pc1 pc2 : Nat} {x y : Int32} {o : Int} (hd : decode code pc = .ok (.if_icmp .ge o, 3)) (ho : 0 ≤ (pc : Int) + o) (hp : ((pc : Int) + o).toNat = pc1) (hp2 : pc + 3 = pc2) (hy : ¬ x < y → WP C Z code ml own rt nm R n0 Q cl sl h pc1 Ls st) (hn : x < y → WP C Z code ml own rt nm R n0 Q cl sl h pc2 Ls st) : WP C Z code ml own rt nm R n0 Q cl sl h pc Ls (.int y :: .int x :: st) :=
  WP.icmp hd ho hp hp2 (fun hq => hy (fun k => by rw [(tlt k).2.1] at hq; cases hq)) (fun hq => hn (Decidable.byContradiction fun k => by rw [(flt k).2.1] at hq; cases hq))
theorem WP.icmp_gt {pc1 pc2 : Nat} {x y : Int32} {o : Int} (hd : decode code pc = .ok (.if_icmp .gt o, 3)) (ho : 0 ≤ (pc : Int) + o) (hp : ((pc : Int) + o).toNat = pc1) (hp2 : pc + 3 = pc2) (hy : y < x → WP C Z code ml own rt nm R n0 Q cl sl h pc1 Ls st) (hn : ¬ y < x → WP C Z code ml own rt nm R n0 Q cl sl h pc2 Ls st) : WP C Z code ml own rt nm R n0 Q cl sl h pc Ls (.int y :: .int x :: st) :=
  WP.icmp hd ho hp hp2 (fun hq => hy (Decidable.byContradiction fun k => by rw [(flt k).2.2.1] at hq; cases hq)) (fun hq => hn (fun k => by rw [(tlt k).2.2.1] at hq; cases hq))
theorem WP.icmp_le {pc1 pc2 : Nat} {x y : Int32} {o : Int} (hd : decode code pc = .ok (.if_icmp .le o, 3)) (ho : 0 ≤ (pc : Int) + o) (hp : ((pc : Int) + o).toNat = pc1) (hp2 : pc + 3 = pc2) (hy : ¬ y < x → WP C Z code ml own rt nm R n0 Q cl sl h pc1 Ls st) (hn : y < x → WP C Z code ml own rt nm R n0 Q cl sl h pc2 Ls st) : WP C Z code ml own rt nm R n0 Q cl sl h pc Ls (.int y :: .int x :: st) :=
  WP.icmp hd ho hp hp2 (fun hq => hy (fun k => by rw [(tlt k).2.2.2] at hq; cases hq)) (fun hq => hn (Decidable.byContradiction fun k => by rw [(flt k).2.2.2] at hq; cases hq))
theorem WP.icmp_eq {pc1 pc2 : Nat} {x y : Int32} {o : Int} (hd : decode code pc = .ok (.if_icmp .eq o, 3)) (ho : 0 ≤ (pc : Int) + o) (hp : ((pc : Int) + o).toNat = pc1) (hp2 : pc + 3 = pc2) (hy : x = y → WP C Z code ml own rt nm R n0 Q cl sl h pc1 Ls st) (hn : ¬ x = y → WP C Z code ml own rt nm R n0 Q cl sl h pc2 Ls st) : WP C Z code ml own rt nm R n0 Q cl sl h pc Ls (.int y :: .int x :: st) :=
  WP.icmp hd ho hp hp2 (fun hq => hy (Decidable.byContradiction fun k => by rw [(feq k).1] at hq; cases hq)) (fun hq => hn (fun k => by rw [(teq k).1] at hq; cases hq))
theorem WP.icmp_ne {pc1 pc2 : Nat} {x y : Int32} {o : Int} (hd : decode code pc = .ok (.if_icmp .ne o, 3)) (ho : 0 ≤ (pc : Int) + o) (hp : ((pc : Int) + o).toNat = pc1) (hp2 : pc + 3 = pc2) (hy : ¬ x = y → WP C Z code ml own rt nm R n0 Q cl sl h pc1 Ls st) (hn : x = y → WP C Z code ml own rt nm R n0 Q cl sl h pc2 Ls st) : WP C Z code ml own rt nm R n0 Q cl sl h pc Ls (.int y :: .int x :: st) :=
  WP.icmp hd ho hp hp2 (fun hq => hy (fun k => by rw [(teq k).2] at hq; cases hq)) (fun hq => hn (Decidable.byContradiction fun k => by rw [(feq k).2] at hq; cases hq))
theorem WP.ifc {pc1 pc2 : Nat} {x : Int32} {cd : ClassFile.Cond} {o : Int} (hd : decode code pc = .ok (.ifCond cd o, 3)) (ho : 0 ≤ (pc : Int) + o) (hp : ((pc : Int) + o).toNat = pc1) (hp2 : pc + 3 = pc2) (hy : ifCond.holds cd x = true → WP C Z code ml own rt nm R n0 Q cl sl h pc1 Ls st) (hn : ifCond.holds cd x = false → WP C Z code ml own rt nm R n0 Q cl sl h pc2 Ls st) : WP C Z code ml own rt nm R n0 Q cl sl h pc Ls (.int x :: st) := by
  subst hp2
  cases hq : ifCond.holds cd x with
  | true => exact (hy hq).pure fun X hx hby hown hZ eT t q => XS.ifYes X.here hx rfl (pc0 := pc) rfl (hb hby hd) rfl hq ho hp q
  | false => exact (hn hq).pure fun X hx hby hown hZ eT t q => XS.ifNo X.here hx rfl (hb hby hd) rfl hq q
theorem WP.ifc_lt {pc1 pc2 : Nat} {x : Int32} {o : Int} (hd : decode code pc = .ok (.ifCond .lt o, 3)) (ho : 0 ≤ (pc : Int) + o) (hp : ((pc : Int) + o).toNat = pc1) (hp2 : pc + 3 = pc2) (hy : x < (0 : Int32) → WP C Z code ml own rt nm R n0 Q cl sl h pc1 Ls st) (hn : ¬ x < (0 : Int32) → WP C Z code ml own rt nm R n0 Q cl sl h pc2 Ls st) : WP C Z code ml own rt nm R n0 Q cl sl h pc Ls (.int x :: st) :=
  WP.ifc hd ho hp hp2 (fun hq => hy (Decidable.byContradiction fun k => by rw [(if0 _ _).trans (flt k).1] at hq; cases hq)) (fun hq => hn (fun k => by rw [(if0 _ _).trans (tlt k).1] at hq; cases hq))
theorem WP.ifc_ge {pc1 pc2 : Nat} {x : Int32} {o : Int} (hd : decode code pc = .ok (.ifCond .ge o, 3)) (ho : 0 ≤ (pc : Int) + o) (hp : ((pc : Int) + o).toNat = pc1) (hp2 : pc + 3 = pc2) (hy : ¬ x < (0 : Int32) → WP C Z code ml own rt nm R n0 Q cl sl h pc1 Ls st) (hn : x < (0 : Int32) → WP C Z code ml own rt nm R n0 Q cl sl h pc2 Ls st) : WP C Z code ml own rt nm R n0 Q cl sl h pc Ls (.int x :: st) :=
  WP.ifc hd ho hp hp2 (fun hq => hy (fun k => by rw [(if0 _ _).trans (tlt k).2.1] at hq; cases hq)) (fun hq => hn (Decidable.byContradiction fun k => by rw [(if0 _ _).trans (flt k).2.1] at hq; cases hq))
theorem WP.ifc_gt {pc1 pc2 : Nat} {x : Int32} {o : Int} (hd : decode code pc = .ok (.ifCond .gt o, 3)) (ho : 0 ≤ (pc : Int) + o) (hp : ((pc : Int) + o).toNat = pc1) (hp2 : pc + 3 = pc2) (hy : (0 : Int32) < x → WP C Z code ml own rt nm R n0 Q cl sl h pc1 Ls st) (hn : ¬ (0 : Int32) < x → WP C Z code ml own rt nm R n0 Q cl sl h pc2 Ls st) : WP C Z code ml own rt nm R n0 Q cl sl h pc Ls (.int x :: st) :=
  WP.ifc hd ho hp hp2 (fun hq => hy (Decidable.byContradiction fun k => by rw [(if0 _ _).trans (flt k).2.2.1] at hq; cases hq)) (fun hq => hn (fun k => by rw [(if0 _ _).trans (tlt k).2.2.1] at hq; cases hq))
theorem WP.ifc_le {pc1 pc2 : Nat} {x : Int32} {o : Int} (hd : decode code pc = .ok (.ifCond .le o, 3)) (ho : 0 ≤ (pc : Int) + o) (hp : ((pc : Int) + o).toNat = pc1) (hp2 : pc + 3 = pc2) (hy : ¬ (0 : Int32) < x → WP C Z code ml own rt nm R n0 Q cl sl h pc1 Ls st) (hn : (0 : Int32) < x → WP C Z code ml own rt nm R n0 Q cl sl h pc2 Ls st) : WP C Z code ml own rt nm R n0 Q cl sl h pc Ls (.int x :: st) :=
  WP.ifc hd ho hp hp2 (fun hq => hy (fun k => by rw [(if0 _ _).trans (tlt k).2.2.2] at hq; cases hq)) (fun hq => hn (Decidable.byContradiction fun k => by rw [(if0 _ _).trans (flt k).2.2.2] at hq; cases hq))
theorem WP.ifc_eq {pc1 pc2 : Nat} {x : Int32} {o : Int} (hd : decode code pc = .ok (.ifCond .eq o, 3)) (ho : 0 ≤ (pc : Int) + o) (hp : ((pc : Int) + o).toNat = pc1) (hp2 : pc + 3 = pc2) (hy : x = (0 : Int32) → WP C Z code ml own rt nm R n0 Q cl sl h pc1 Ls st) (hn : ¬ x = (0 : Int32) → WP C Z code ml own rt nm R n0 Q cl sl h pc2 Ls st) : WP C Z code ml own rt nm R n0 Q cl sl h pc Ls (.int x :: st) :=
  WP.ifc hd ho hp hp2 (fun hq => hy (Decidable.byContradiction fun k => by rw [(if0 _ _).trans (feq k).1] at hq; cases hq)) (fun hq => hn (fun k => by rw [(if0 _ _).trans (teq k).1] at hq; cases hq))
theorem WP.ifc_ne {pc1 pc2 : Nat} {x : Int32} {o : Int} (hd : decode code pc = .ok (.ifCond .ne o, 3)) (ho : 0 ≤ (pc : Int) + o) (hp : ((pc : Int) + o).toNat = pc1) (hp2 : pc + 3 = pc2) (hy : ¬ x = (0 : Int32) → WP C Z code ml own rt nm R n0 Q cl sl h pc1 Ls st) (hn : x = (0 : Int32) → WP C Z code ml own rt nm R n0 Q cl sl h pc2 Ls st) : WP C Z code ml own rt nm R n0 Q cl sl h pc Ls (.int x :: st) :=
  WP.ifc hd ho hp hp2 (fun hq => hy (fun k => by rw [(if0 _ _).trans (teq k).2] at hq; cases hq)) (fun hq => hn (Decidable.byContradiction fun k => by rw [(if0 _ _).trans (feq k).2] at hq; cases hq))
theorem WP.lcmp_lt {pc1 pc2 : Nat} {x y : Int64} {o : Int} (hd1 : decode code pc = .ok (.lcmp, 1)) (hp0 : pc + 1 = pc') (hd : decode code pc' = .ok (.ifCond .lt o, 3)) (ho : 0 ≤ (pc' : Int) + o) (hp : ((pc' : Int) + o).toNat = pc1) (hp2 : pc' + 3 = pc2) (hy : x < y → WP C Z code ml own rt nm R n0 Q cl sl h pc1 Ls st) (hn : ¬ x < y → WP C Z code ml own rt nm R n0 Q cl sl h pc2 Ls st) : WP C Z code ml own rt nm R n0 Q cl sl h pc Ls (.long y :: .long x :: st) :=
  WP.lcmp hd1 hp0 (WP.ifc_lt hd ho hp hp2 (fun k => hy ((lw_lt x y).mp k)) (fun k => hn (fun z => k ((lw_lt x y).mpr z))))
theorem WP.lcmp_ge {pc1 pc2 : Nat} {x y : Int64} {o : Int} (hd1 : decode code pc = .ok (.lcmp, 1)) (hp0 : pc + 1 = pc') (hd : decode code pc' = .ok (.ifCond .ge o, 3)) (ho : 0 ≤ (pc' : Int) + o) (hp : ((pc' : Int) + o).toNat = pc1) (hp2 : pc' + 3 = pc2) (hy : ¬ x < y → WP C Z code ml own rt nm R n0 Q cl sl h pc1 Ls st) (hn : x < y → WP C Z code ml own rt nm R n0 Q cl sl h pc2 Ls st) : WP C Z code ml own rt nm R n0 Q cl sl h pc Ls (.long y :: .long x :: st) :=
  WP.lcmp hd1 hp0 (WP.ifc_ge hd ho hp hp2 (fun k => hy (fun z => k ((lw_lt x y).mpr z))) (fun k => hn ((lw_lt x y).mp k)))
theorem WP.lcmp_gt {pc1 pc2 : Nat} {x y : Int64} {o : Int} (hd1 : decode code pc = .ok (.lcmp, 1)) (hp0 : pc + 1 = pc') (hd : decode code pc' = .ok (.ifCond .gt o, 3)) (ho : 0 ≤ (pc' : Int) + o) (hp : ((pc' : Int) + o).toNat = pc1) (hp2 : pc' + 3 = pc2) (hy : y < x → WP C Z code ml own rt nm R n0 Q cl sl h pc1 Ls st) (hn : ¬ y < x → WP C Z code ml own rt nm R n0 Q cl sl h pc2 Ls st) : WP C Z code ml own rt nm R n0 Q cl sl h pc Ls (.long y :: .long x :: st) :=
  WP.lcmp hd1 hp0 (WP.ifc_gt hd ho hp hp2 (fun k => hy ((lw_gt x y).mp k)) (fun k => hn (fun z => k ((lw_gt x y).mpr z))))
theorem WP.lcmp_le {pc1 pc2 : Nat} {x y : Int64} {o : Int} (hd1 : decode code pc = .ok (.lcmp, 1)) (hp0 : pc + 1 = pc') (hd : decode code pc' = .ok (.ifCond .le o, 3)) (ho : 0 ≤ (pc' : Int) + o) (hp : ((pc' : Int) + o).toNat = pc1) (hp2 : pc' + 3 = pc2) (hy : ¬ y < x → WP C Z code ml own rt nm R n0 Q cl sl h pc1 Ls st) (hn : y < x → WP C Z code ml own rt nm R n0 Q cl sl h pc2 Ls st) : WP C Z code ml own rt nm R n0 Q cl sl h pc Ls (.long y :: .long x :: st) :=
  WP.lcmp hd1 hp0 (WP.ifc_le hd ho hp hp2 (fun k => hy (fun z => k ((lw_gt x y).mpr z))) (fun k => hn ((lw_gt x y).mp k)))
theorem WP.lcmp_eq {pc1 pc2 : Nat} {x y : Int64} {o : Int} (hd1 : decode code pc = .ok (.lcmp, 1)) (hp0 : pc + 1 = pc') (hd : decode code pc' = .ok (.ifCond .eq o, 3)) (ho : 0 ≤ (pc' : Int) + o) (hp : ((pc' : Int) + o).toNat = pc1) (hp2 : pc' + 3 = pc2) (hy : x = y → WP C Z code ml own rt nm R n0 Q cl sl h pc1 Ls st) (hn : ¬ x = y → WP C Z code ml own rt nm R n0 Q cl sl h pc2 Ls st) : WP C Z code ml own rt nm R n0 Q cl sl h pc Ls (.long y :: .long x :: st) :=
  WP.lcmp hd1 hp0 (WP.ifc_eq hd ho hp hp2 (fun k => hy ((lw_eq x y).mp k)) (fun k => hn (fun z => k ((lw_eq x y).mpr z))))
theorem WP.lcmp_ne {pc1 pc2 : Nat} {x y : Int64} {o : Int} (hd1 : decode code pc = .ok (.lcmp, 1)) (hp0 : pc + 1 = pc') (hd : decode code pc' = .ok (.ifCond .ne o, 3)) (ho : 0 ≤ (pc' : Int) + o) (hp : ((pc' : Int) + o).toNat = pc1) (hp2 : pc' + 3 = pc2) (hy : ¬ x = y → WP C Z code ml own rt nm R n0 Q cl sl h pc1 Ls st) (hn : x = y → WP C Z code ml own rt nm R n0 Q cl sl h pc2 Ls st) : WP C Z code ml own rt nm R n0 Q cl sl h pc Ls (.long y :: .long x :: st) :=
  WP.lcmp hd1 hp0 (WP.ifc_ne hd ho hp hp2 (fun k => hy (fun z => k ((lw_eq x y).mpr z))) (fun k => hn ((lw_eq x y).mp k)))
theorem WP.ifnullY {b : Addr} {o : Int} (hd : decode code pc = .ok (.ifnull o, 3)) (ho : 0 ≤ (pc : Int) + o) (hp : ((pc : Int) + o).toNat = pc') (hr : WP C Z code ml own rt nm R n0 Q cl sl h pc' Ls st) : WP C Z code ml own rt nm R n0 Q cl sl h pc Ls (.null :: st) :=
  hr.pure fun X hx hby hown hZ eT t q => XS.ifnullYes X.here hx rfl (pc0 := pc) rfl (hb hby hd) rfl ho hp q
theorem WP.ifnullN {b : Addr} {o : Int} (hd : decode code pc = .ok (.ifnull o, 3)) (hp : pc + 3 = pc') (hr : WP C Z code ml own rt nm R n0 Q cl sl h pc' Ls st) : WP C Z code ml own rt nm R n0 Q cl sl h pc Ls (.ref b :: st) := by
  subst hp
  exact hr.pure fun X hx hby hown hZ eT t q => XS.ifnullNo X.here hx rfl (hb hby hd) rfl q
theorem WP.ifnonnullY {b : Addr} {o : Int} (hd : decode code pc = .ok (.ifnonnull o, 3)) (ho : 0 ≤ (pc : Int) + o) (hp : ((pc : Int) + o).toNat = pc') (hr : WP C Z code ml own rt nm R n0 Q cl sl h pc' Ls st) : WP C Z code ml own rt nm R n0 Q cl sl h pc Ls (.ref b :: st) :=
  hr.pure fun X hx hby hown hZ eT t q => XS.ifnonnullYes X.here hx rfl (pc0 := pc) rfl (hb hby hd) rfl ho hp q
theorem WP.ifnonnullN {b : Addr} {o : Int} (hd : decode code pc = .ok (.ifnonnull o, 3)) (hp : pc + 3 = pc') (hr : WP C Z code ml own rt nm R n0 Q cl sl h pc' Ls st) : WP C Z code ml own rt nm R n0 Q cl sl h pc Ls (.null :: st) := by
  subst hp
  exact hr.pure fun X hx hby hown hZ eT t q => XS.ifnonnullNo X.here hx rfl (hb hby hd) rfl q
theorem WP.acmp_eq {pc1 pc2 : Nat} {x y : Value} {o : Int} (hd : decode code pc = .ok (.if_acmp .eq o, 3)) (h1 : x.isRef = true) (h2 : y.isRef = true) (ho : 0 ≤ (pc : Int) + o) (hp : ((pc : Int) + o).toNat = pc1) (hp2 : pc + 3 = pc2) (hy : x = y → WP C Z code ml own rt nm R n0 Q cl sl h pc1 Ls st) (hn : ¬ x = y → WP C Z code ml own rt nm R n0 Q cl sl h pc2 Ls st) : WP C Z code ml own rt nm R n0 Q cl sl h pc Ls (y :: x :: st) := by
  by_cases k : x = y
  · exact (hy k).pure fun X hx hby hown hZ eT t q => Jvm.RoadKit.acmp X hx rfl h1 h2 (pc0 := pc) (same := true) rfl (hb hby hd) rfl (decide_eq_true k) ho (by simp [acV, hp, hp2]) q
  · exact (hn k).pure fun X hx hby hown hZ eT t q => Jvm.RoadKit.acmp X hx rfl h1 h2 (pc0 := pc) (same := false) rfl (hb hby hd) rfl (decide_eq_false k) ho (by simp [acV, hp, hp2]) q
theorem WP.acmp_ne {pc1 pc2 : Nat} {x y : Value} {o : Int} (hd : decode code pc = .ok (.if_acmp .ne o, 3)) (h1 : x.isRef = true) (h2 : y.isRef = true) (ho : 0 ≤ (pc : Int) + o) (hp : ((pc : Int) + o).toNat = pc1) (hp2 : pc + 3 = pc2) (hy : ¬ x = y → WP C Z code ml own rt nm R n0 Q cl sl h pc1 Ls st) (hn : x = y → WP C Z code ml own rt nm R n0 Q cl sl h pc2 Ls st) : WP C Z code ml own rt nm R n0 Q cl sl h pc Ls (y :: x :: st) := by
  by_cases k : x = y
  · exact (hn k).pure fun X hx hby hown hZ eT t q => Jvm.RoadKit.acmp X hx rfl h1 h2 (pc0 := pc) (same := true) rfl (hb hby hd) rfl (decide_eq_true k) ho (by simp [acV, hp, hp2]) q
  · exact (hy k).pure fun X hx hby hown hZ eT t q => Jvm.RoadKit.acmp X hx rfl h1 h2 (pc0 := pc) (same := false) rfl (hb hby hd) rfl (decide_eq_false k) ho (by simp [acV, hp, hp2]) q
theorem WP.getF {i : Nat} {R0 O n d host : String} {a : Addr} {v : Value} (hd : decode code pc = .ok (.getfield i, 3)) (hp : pc + 3 = pc') (w : (Jvm.Cond.fieldLink own i R0 n d).before a0 Z = true ∨ (Jvm.Cond.fieldLinkNest own i R0 n d host).before a0 Z = true) (via : Via Z R0 O n d) (F : Fld Z h a O n d v) (hr : WP C Z code ml own rt nm R n0 Q cl sl h pc' Ls (v :: st)) : WP C Z code ml own rt nm R n0 Q cl sl h pc Ls (.ref a :: st) := by
  subst hp
  refine hr.step fun X hx hby hml hown hZ hnm eT N => ?_
  obtain ⟨T', X', e', k⟩ := RoadKit.getF X hx hZ hown w via eT F (g := mkF _ pc Ls (.ref a :: st)) rfl rfl (hb hby hd)
  exact ⟨T', _, X', e', N, fun t q => k t q⟩
theorem WP.getS {i : Nat} {R0 O n d host : String} {v : Value} (hd : decode code pc = .ok (.getstatic i, 3)) (hp : pc + 3 = pc') (w : (Jvm.Cond.fieldLink own i R0 n d).before a0 Z = true ∨ (Jvm.Cond.fieldLinkNest own i R0 n d host).before a0 Z = true) (via : Via Z R0 O n d) (F : Sta Z h O n d v) (hr : WP C Z code ml own rt nm R n0 Q cl sl h pc' Ls (v :: st)) : WP C Z code ml own rt nm R n0 Q cl sl h pc Ls st := by
  subst hp
  refine hr.step fun X hx hby hml hown hZ hnm eT N => ?_
  obtain ⟨T', X', e', k⟩ := getS2 X hx hZ hown w via eT F (g := mkF _ pc Ls st) rfl (hb hby hd)
  exact ⟨T', _, X', e', N, fun t q => k t q⟩
theorem WP.putF {i kk : Nat} {R0 O n d host K : String} {ty : FieldType} {a : Addr} {v old : Value} (hd : decode code pc = .ok (.putfield i, 3)) (hp : pc + 3 = pc') (w : (Jvm.Cond.fieldLink own i R0 n d).before a0 Z = true ∨ (Jvm.Cond.fieldLinkNest own i R0 n d host).before a0 Z = true) (via : Via Z R0 O n d) (F : Fld Z h a O n d old) (E : Exa Z h a K) (L : (Jvm.Cond.lays K O n d).before a0 Z = true ∨ ((Jvm.Cond.laysFinal K O n d).before a0 Z = true ∧ own = O ∧ nm = "<init>")) (wi : (Jvm.Cond.instantiable K kk).before a0 Z = true)
    (hty : parseFieldDescriptor d = some ty) (hn : narrow ty v = v) (hf : fits ty v = true) (ge : n0 ≤ a) (hr : ∀ h', Wr h h' a (Jvm.RoadKit.slotOf Z O n d) v → WP C Z code ml own rt nm R n0 Q cl sl h' pc' Ls st) : WP C Z code ml own rt nm R n0 Q cl sl h pc Ls (v :: .ref a :: st) := by
  subst hp
  intro k1 k2 k3 k4 k5 k6 k7 k8 T locs X e N
  obtain ⟨T', h', X', e', W', k⟩ := RoadKit.putF X k1 k5 k4 w via e F E (L.imp id fun z => ⟨z.1, z.2.1, k8.trans z.2.2⟩) wi hty hn hf (g := mkF _ pc Ls (v :: .ref a :: st)) rfl rfl (hb k2 hd)
  obtain ⟨s₂, v', L', h1, h2⟩ := hr h' W' k1 k2 k3 k4 k5 k6 k7 k8 T' _ X' e' (Fr.snoc X' N ge)
  exact ⟨s₂, v', L', k _ h1, h2⟩
theorem WP.putFN {i kk : Nat} {R0 O n d K : String} {ty : FieldType} {a : Addr} {v v' old : Value} (hd : decode code pc = .ok (.putfield i, 3)) (hp : pc + 3 = pc') (w : (Jvm.Cond.fieldLink own i R0 n d).before a0 Z = true) (via : Via Z R0 O n d) (F : Fld Z h a O n d old) (E : Exa Z h a K) (L : (Jvm.Cond.lays K O n d).before a0 Z = true ∨ ((Jvm.Cond.laysFinal K O n d).before a0 Z = true ∧ own = O ∧ nm = "<init>")) (wi : (Jvm.Cond.instantiable K kk).before a0 Z = true)
    (hty : parseFieldDescriptor d = some ty) (hn : narrow ty v = v') (hf : fits ty v' = true) (ge : n0 ≤ a) (hr : ∀ h', Wr h h' a (Jvm.RoadKit.slotOf Z O n d) v' → WP C Z code ml own rt nm R n0 Q cl sl h' pc' Ls st) : WP C Z code ml own rt nm R n0 Q cl sl h pc Ls (v :: .ref a :: st) := by
  subst hp
  intro k1 k2 k3 k4 k5 k6 k7 k8 T locs X e N
  obtain ⟨T', h', X', e', W', k⟩ := RoadKit.putFN X k1 k5 k4 w via e F E (L.imp id fun z => ⟨z.1, z.2.1, k8.trans z.2.2⟩) wi hty hn hf (g := mkF _ pc Ls (v :: .ref a :: st)) rfl rfl (hb k2 hd)
  obtain ⟨s₂, v'', L', h1, h2⟩ := hr h' W' k1 k2 k3 k4 k5 k6 k7 k8 T' _ X' e' (Fr.snoc X' N ge)
  exact ⟨s₂, v'', L', k _ h1, h2⟩
theorem WP.newO {i n : Nat} {K : String} {cl' sl' : Nat} (hd : decode code pc = .ok (.new i, 3)) (hp : pc + 3 = pc') (w : (Jvm.Cond.classLink own i K).before a0 Z = true) (wi : (Jvm.Cond.instantiable K n).before a0 Z = true) (wz : (Jvm.Cond.initialized K).before a0 Z = true) (hc : cl + 1 = cl') (hs : sl + n = sl') (hc' : cl' ≤ R.cells) (hs' : sl' ≤ R.slots)
    (hr : ∀ h' a, a = h.size → Ext h h' → Exa Z h' a K → (∀ {O nf d : String} {ty : FieldType}, Laid Z a0 K O nf d → parseFieldDescriptor d = some ty → Fld Z h' a O nf d (defaultValue ty)) → WP C Z code ml own rt nm R n0 Q cl' sl' h' pc' Ls (.ref a :: st)) : WP C Z code ml own rt nm R n0 Q cl sl h pc Ls st := by
  subst hp hc hs
  intro k1 k2 k3 k4 k5 k6 k7 k8 T locs X e N
  obtain ⟨T', h', X', e', E', A', D', -, k⟩ := RoadKit.newO X k1 k5 k4 w wi wz e (g := mkF _ pc Ls st) rfl (hb k2 hd) hc' hs'
  obtain ⟨s₂, v', L', h1, h2⟩ := hr h' _ rfl E' A' D' k1 k2 k3 k4 k5 k6 k7 k8 T' _ X' e' N
  exact ⟨s₂, v', L', k _ h1, h2⟩
/-- an array of n elements, the i-th is f i -/
def Arf (Z : State) (h : Heap) (a : Addr) (ty : FieldType) (n : Nat) (f : Nat → Value) : Prop := ∃ c : Cell, Arr Z h a c ty ∧ c.slots.size = n ∧ n < 2147483648 ∧ (∀ i, i < n → c.slots[i]? = some (f i)) ∧ ∀ i, i < n → fits ty (f i) = true
theorem Arf.lt {a : Addr} {ty : FieldType} {n : Nat} {f : Nat → Value} (A : Arf Z h a ty n f) : a < h.size := by obtain ⟨c, A, -⟩ := A; exact A.lt
theorem Arf.small {a : Addr} {ty : FieldType} {n : Nat} {f : Nat → Value} (A : Arf Z h a ty n f) : n < 2147483648 := by obtain ⟨c, -, -, h, -⟩ := A; exact h
theorem Arf.keep {h' : Heap} {ws : List Addr} {a : Addr} {ty : FieldType} {n : Nat} {f : Nat → Value} (A : Arf Z h a ty n f) (K : Keep h h' ws) (q : a ∉ ws) : Arf Z h' a ty n f := by obtain ⟨c, A, r⟩ := A; exact ⟨c, ⟨K.2.1 a c A.1 q, A.2⟩, r⟩
theorem Arf.ext {h' : Heap} {a : Addr} {ty : FieldType} {n : Nat} {f : Nat → Value} (A : Arf Z h a ty n f) (E : Ext h h') : Arf Z h' a ty n f := by obtain ⟨c, A, r⟩ := A; exact ⟨c, A.ext E, r⟩
theorem Arf.fit {a : Addr} {ty : FieldType} {n : Nat} {f : Nat → Value} (A : Arf Z h a ty n f) {i : Nat} (hi : i < n) : fits ty (f i) = true := by obtain ⟨c, -, -, -, -, r⟩ := A; exact r i hi
theorem Arf.congr {a : Addr} {ty : FieldType} {n : Nat} {f g : Nat → Value} (A : Arf Z h a ty n f) (q : ∀ i, i < n → f i = g i) : Arf Z h a ty n g := by
  obtain ⟨c, A, r1, r2, r3, r4⟩ := A; exact ⟨c, A, r1, r2, fun i hi => by rw [← q i hi]; exact r3 i hi, fun i hi => by rw [← q i hi]; exact r4 i hi⟩
theorem idxN {j : Int32} {i n : Nat} (hi : j.toInt = (i : Int)) (hl : i < n) : ¬ (j < 0 ∨ n ≤ j.toNatClampNeg) ∧ j.toNatClampNeg = i := by
  have e0 : (0 : Int32).toInt = 0 := rfl
  simp only [Int32.lt_iff_toInt_lt, Int32.toNatClampNeg, hi, e0]; omega
theorem WP.baload {a : Addr} {j : Int32} {n : Nat} {f : Nat → Value} {v : Value} (i : Nat) (hd : decode code pc = .ok (.baload, 1)) (hp : pc + 1 = pc') (A : Arf Z h a .byte n f) (hi : j.toInt = (i : Int)) (hl : i < n) (hv : f i = v) (hr : WP C Z code ml own rt nm R n0 Q cl sl h pc' Ls (v :: st)) : WP C Z code ml own rt nm R n0 Q cl sl h pc Ls (.int j :: .ref a :: st) := by
  subst hp hv
  obtain ⟨c, A, r1, r2, r3, r4⟩ := A
  obtain ⟨q1, q2⟩ := idxN hi hl
  exact hr.pure fun X hx hby hown hZ eT t q => X.baloadBytes hx (j := j) (by rw [eT]; exact A.1) (State.isArrayOf_alike hZ.alike A.2.1) A.2.2 (by rw [r1]; exact q1) (by rw [q2]; exact r3 i hl) (g := mkF _ pc Ls (.int j :: .ref a :: st)) rfl rfl (hb hby hd) t q
theorem WP.baloadZ {a : Addr} {j : Int32} {n : Nat} {f : Nat → Value} {v : Value} (i : Nat) (hd : decode code pc = .ok (.baload, 1)) (hp : pc + 1 = pc') (A : Arf Z h a .boolean n f) (hi : j.toInt = (i : Int)) (hl : i < n) (hv : f i = v) (hr : WP C Z code ml own rt nm R n0 Q cl sl h pc' Ls (v :: st)) : WP C Z code ml own rt nm R n0 Q cl sl h pc Ls (.int j :: .ref a :: st) := by
  subst hp hv
  obtain ⟨c, A, r1, r2, r3, r4⟩ := A
  obtain ⟨q1, q2⟩ := idxN hi hl
  exact hr.pure fun X hx hby hown hZ eT t q => X.baloadBooleans hx (j := j) (by rw [eT]; exact A.1) (State.isArrayOf_alike hZ.alike A.2.1) A.2.2 (by rw [r1]; exact q1) (by rw [q2]; exact r3 i hl) (g := mkF _ pc Ls (.int j :: .ref a :: st)) rfl rfl (hb hby hd) t q
theorem WP.caload {a : Addr} {j : Int32} {n : Nat} {f : Nat → Value} {v : Value} (i : Nat) (hd : decode code pc = .ok (.caload, 1)) (hp : pc + 1 = pc') (A : Arf Z h a .char n f) (hi : j.toInt = (i : Int)) (hl : i < n) (hv : f i = v) (hr : WP C Z code ml own rt nm R n0 Q cl sl h pc' Ls (v :: st)) : WP C Z code ml own rt nm R n0 Q cl sl h pc Ls (.int j :: .ref a :: st) := by
  subst hp hv
  obtain ⟨c, A, r1, r2, r3, r4⟩ := A
  obtain ⟨q1, q2⟩ := idxN hi hl
  exact hr.pure fun X hx hby hown hZ eT t q => X.caload hx (j := j) (by rw [eT]; exact A.1) (State.isArrayOf_alike hZ.alike A.2.1) A.2.2 (by rw [r1]; exact q1) (by rw [q2]; exact r3 i hl) (g := mkF _ pc Ls (.int j :: .ref a :: st)) rfl rfl (hb hby hd) t q
theorem WP.iaload {a : Addr} {j : Int32} {n : Nat} {f : Nat → Value} {v : Value} (i : Nat) (hd : decode code pc = .ok (.iaload, 1)) (hp : pc + 1 = pc') (A : Arf Z h a .int n f) (hi : j.toInt = (i : Int)) (hl : i < n) (hv : f i = v) (hr : WP C Z code ml own rt nm R n0 Q cl sl h pc' Ls (v :: st)) : WP C Z code ml own rt nm R n0 Q cl sl h pc Ls (.int j :: .ref a :: st) := by
  subst hp hv
  obtain ⟨c, A, r1, r2, r3, r4⟩ := A
  obtain ⟨q1, q2⟩ := idxN hi hl
  exact hr.pure fun X hx hby hown hZ eT t q => X.iaload hx (j := j) (by rw [eT]; exact A.1) (State.isArrayOf_alike hZ.alike A.2.1) A.2.2 (by rw [r1]; exact q1) (by rw [q2]; exact r3 i hl) (g := mkF _ pc Ls (.int j :: .ref a :: st)) rfl rfl (hb hby hd) t q
theorem WP.laload {a : Addr} {j : Int32} {n : Nat} {f : Nat → Value} {v : Value} (i : Nat) (hd : decode code pc = .ok (.laload, 1)) (hp : pc + 1 = pc') (A : Arf Z h a .long n f) (hi : j.toInt = (i : Int)) (hl : i < n) (hv : f i = v) (hr : WP C Z code ml own rt nm R n0 Q cl sl h pc' Ls (v :: st)) : WP C Z code ml own rt nm R n0 Q cl sl h pc Ls (.int j :: .ref a :: st) := by
  subst hp hv
  obtain ⟨c, A, r1, r2, r3, r4⟩ := A
  obtain ⟨q1, q2⟩ := idxN hi hl
  exact hr.pure fun X hx hby hown hZ eT t q => X.laload hx (j := j) (by rw [eT]; exact A.1) (State.isArrayOf_alike hZ.alike A.2.1) A.2.2 (by rw [r1]; exact q1) (by rw [q2]; exact r3 i hl) (g := mkF _ pc Ls (.int j :: .ref a :: st)) rfl rfl (hb hby hd) t q
theorem WP.saload {a : Addr} {j : Int32} {n : Nat} {f : Nat → Value} {v : Value} (i : Nat) (hd : decode code pc = .ok (.saload, 1)) (hp : pc + 1 = pc') (A : Arf Z h a .short n f) (hi : j.toInt = (i : Int)) (hl : i < n) (hv : f i = v) (hr : WP C Z code ml own rt nm R n0 Q cl sl h pc' Ls (v :: st)) : WP C Z code ml own rt nm R n0 Q cl sl h pc Ls (.int j :: .ref a :: st) := by
  subst hp hv
  obtain ⟨c, A, r1, r2, r3, r4⟩ := A
  obtain ⟨q1, q2⟩ := idxN hi hl
  exact hr.pure fun X hx hby hown hZ eT t q => X.saload hx (j := j) (by rw [eT]; exact A.1) (State.isArrayOf_alike hZ.alike A.2.1) A.2.2 (by rw [r1]; exact q1) (by rw [q2]; exact r3 i hl) (g := mkF _ pc Ls (.int j :: .ref a :: st)) rfl rfl (hb hby hd) t q
theorem WP.aaload {a : Addr} {j : Int32} {n : Nat} {f : Nat → Value} {v : Value} {ty : FieldType} (i : Nat) (hd : decode code pc = .ok (.aaload, 1)) (hp : pc + 1 = pc') (A : Arf Z h a ty n f) (hty : ty.isReference = true) (hi : j.toInt = (i : Int)) (hl : i < n) (hv : f i = v) (hr : WP C Z code ml own rt nm R n0 Q cl sl h pc' Ls (v :: st)) : WP C Z code ml own rt nm R n0 Q cl sl h pc Ls (.int j :: .ref a :: st) := by
  subst hp hv
  obtain ⟨c, A, r1, r2, r3, r4⟩ := A
  obtain ⟨q1, q2⟩ := idxN hi hl
  exact hr.pure fun X hx hby hown hZ eT t q => X.aaload hx (j := j) (by rw [eT]; exact A.1) (State.isArrayOf_alike hZ.alike A.2.1) hty A.2.2 (by rw [r1]; exact q1) (by rw [q2]; exact r3 i hl) (g := mkF _ pc Ls (.int j :: .ref a :: st)) rfl rfl (hb hby hd) t q
theorem WP.arraylength {a : Addr} {n : Nat} {f : Nat → Value} {ty : FieldType} {z : Int32} (hd : decode code pc = .ok (.arraylength, 1)) (hp : pc + 1 = pc') (A : Arf Z h a ty n f) (hz : n.toInt32 = z) (hr : WP C Z code ml own rt nm R n0 Q cl sl h pc' Ls (.int z :: st)) : WP C Z code ml own rt nm R n0 Q cl sl h pc Ls (.ref a :: st) := by
  subst hp hz
  obtain ⟨c, A, r1, r2, r3, r4⟩ := A
  exact hr.pure fun X hx hby hown hZ eT t q => X.arraylength hx (by rw [eT]; exact A.1) (State.isArrayOf_alike hZ.alike A.2.1) (g := mkF _ pc Ls (.ref a :: st)) rfl rfl (hb hby hd) t (by rw [r1]; exact q)
theorem Arf.set {h' : Heap} {a : Addr} {ty : FieldType} {n : Nat} {f : Nat → Value} {c : Cell} {v : Value} {j : Int32} {i : Nat} (A : Arr Z h a c ty) (r1 : c.slots.size = n) (r2 : n < 2147483648) (r3 : ∀ i, i < n → c.slots[i]? = some (f i)) (r4 : ∀ i, i < n → fits ty (f i) = true) (hv : fits ty v = true) (W : Wr h h' a j.toNatClampNeg v) (hj : j.toNatClampNeg = i) (hl : i < n) : Arf Z h' a ty n (fun k => if k = i then v else f k) := by
  subst hj
  refine ⟨_, A.same W, by rw [sz_set]; exact r1, r2, fun k hk => ?_, fun k hk => ?_⟩
  · by_cases e : k = j.toNatClampNeg
    · show _ = some (if k = j.toNatClampNeg then v else f k)
      rw [if_pos e, e]; simp [Cell.setSlot, r1, hl]
    · show _ = some (if k = j.toNatClampNeg then v else f k)
      rw [if_neg e, ← r3 k hk]; exact Array.getElem?_setIfInBounds_ne (Ne.symm e)
  · by_cases e : k = j.toNatClampNeg
    · simp only [if_pos e]; exact hv
    · simp only [if_neg e]; exact r4 k hk
theorem WP.bastore {a : Addr} {j : Int32} {x : Int32} {n : Nat} {f : Nat → Value} (i : Nat) (hd : decode code pc = .ok (.bastore, 1)) (hp : pc + 1 = pc') (A : Arf Z h a .byte n f) (hi : j.toInt = (i : Int)) (hl : i < n) (ge : n0 ≤ a) (hr : ∀ h', Keep h h' [a] → Arf Z h' a .byte n (fun k => if k = i then .int (nar .byte x) else f k) → WP C Z code ml own rt nm R n0 Q cl sl h' pc' Ls st) : WP C Z code ml own rt nm R n0 Q cl sl h pc Ls (.int x :: .int j :: .ref a :: st) := by
  subst hp
  obtain ⟨c, A, r1, r2, r3, r4⟩ := A
  obtain ⟨q1, q2⟩ := idxN hi hl
  intro k1 k2 k3 k4 k5 k6 k7 k8 T locs X e N
  obtain ⟨T', h', X', e', W', k⟩ := stB X k1 k5 e A (j := j) (x := x) (by rw [r1]; exact q1) (g := mkF _ pc Ls (.int x :: .int j :: .ref a :: st)) rfl rfl (hb k2 hd)
  obtain ⟨s₂, v', L', h1, h2⟩ := hr h' (Keep.of_wr W') (Arf.set A r1 r2 r3 r4 (fits_nar_byte x) W' q2 hl) k1 k2 k3 k4 k5 k6 k7 k8 T' _ X' e' (Fr.snoc X' N ge)
  exact ⟨s₂, v', L', k _ h1, h2⟩
theorem WP.castore {a : Addr} {j : Int32} {x : Int32} {n : Nat} {f : Nat → Value} (i : Nat) (hd : decode code pc = .ok (.castore, 1)) (hp : pc + 1 = pc') (A : Arf Z h a .char n f) (hi : j.toInt = (i : Int)) (hl : i < n) (ge : n0 ≤ a) (hr : ∀ h', Keep h h' [a] → Arf Z h' a .char n (fun k => if k = i then .int (nar .char x) else f k) → WP C Z code ml own rt nm R n0 Q cl sl h' pc' Ls st) : WP C Z code ml own rt nm R n0 Q cl sl h pc Ls (.int x :: .int j :: .ref a :: st) := by
  subst hp
  obtain ⟨c, A, r1, r2, r3, r4⟩ := A
  obtain ⟨q1, q2⟩ := idxN hi hl
  intro k1 k2 k3 k4 k5 k6 k7 k8 T locs X e N
  obtain ⟨T', h', X', e', W', k⟩ := stC X k1 k5 e A (j := j) (x := x) (by rw [r1]; exact q1) (g := mkF _ pc Ls (.int x :: .int j :: .ref a :: st)) rfl rfl (hb k2 hd)
  obtain ⟨s₂, v', L', h1, h2⟩ := hr h' (Keep.of_wr W') (Arf.set A r1 r2 r3 r4 (fits_nar_char x) W' q2 hl) k1 k2 k3 k4 k5 k6 k7 k8 T' _ X' e' (Fr.snoc X' N ge)
  exact ⟨s₂, v', L', k _ h1, h2⟩
theorem WP.iastore {a : Addr} {j : Int32} {x : Int32} {n : Nat} {f : Nat → Value} (i : Nat) (hd : decode code pc = .ok (.iastore, 1)) (hp : pc + 1 = pc') (A : Arf Z h a .int n f) (hi : j.toInt = (i : Int)) (hl : i < n) (ge : n0 ≤ a) (hr : ∀ h', Keep h h' [a] → Arf Z h' a .int n (fun k => if k = i then .int x else f k) → WP C Z code ml own rt nm R n0 Q cl sl h' pc' Ls st) : WP C Z code ml own rt nm R n0 Q cl sl h pc Ls (.int x :: .int j :: .ref a :: st) := by
  subst hp
  obtain ⟨c, A, r1, r2, r3, r4⟩ := A
  obtain ⟨q1, q2⟩ := idxN hi hl
  intro k1 k2 k3 k4 k5 k6 k7 k8 T locs X e N
  obtain ⟨T', h', X', e', W', k⟩ := stI X k1 k5 e A (j := j) (x := x) (by rw [r1]; exact q1) (g := mkF _ pc Ls (.int x :: .int j :: .ref a :: st)) rfl rfl (hb k2 hd)
  obtain ⟨s₂, v', L', h1, h2⟩ := hr h' (Keep.of_wr W') (Arf.set A r1 r2 r3 r4 rfl W' q2 hl) k1 k2 k3 k4 k5 k6 k7 k8 T' _ X' e' (Fr.snoc X' N ge)
  exact ⟨s₂, v', L', k _ h1, h2⟩
theorem WP.lastore {a : Addr} {j : Int32} {x : Int64} {n : Nat} {f : Nat → Value} (i : Nat) (hd : decode code pc = .ok (.lastore, 1)) (hp : pc + 1 = pc') (A : Arf Z h a .long n f) (hi : j.toInt = (i : Int)) (hl : i < n) (ge : n0 ≤ a) (hr : ∀ h', Keep h h' [a] → Arf Z h' a .long n (fun k => if k = i then .long x else f k) → WP C Z code ml own rt nm R n0 Q cl sl h' pc' Ls st) : WP C Z code ml own rt nm R n0 Q cl sl h pc Ls (.long x :: .int j :: .ref a :: st) := by
  subst hp
  obtain ⟨c, A, r1, r2, r3, r4⟩ := A
  obtain ⟨q1, q2⟩ := idxN hi hl
  intro k1 k2 k3 k4 k5 k6 k7 k8 T locs X e N
  obtain ⟨T', h', X', e', W', k⟩ := stJ X k1 k5 e A (j := j) (x := x) (by rw [r1]; exact q1) (g := mkF _ pc Ls (.long x :: .int j :: .ref a :: st)) rfl rfl (hb k2 hd)
  obtain ⟨s₂, v', L', h1, h2⟩ := hr h' (Keep.of_wr W') (Arf.set A r1 r2 r3 r4 rfl W' q2 hl) k1 k2 k3 k4 k5 k6 k7 k8 T' _ X' e' (Fr.snoc X' N ge)
  exact ⟨s₂, v', L', k _ h1, h2⟩
theorem WP.newP {aty : ArrayType} {z : Int32} {n cap : Nat} {cl' sl' : Nat} (hd : decode code pc = .ok (.newarray aty, 2)) (hp : pc + 2 = pc') (w : (Jvm.Cond.arrayClass (newarray.typeOf aty)).before a0 Z = true) (hz : z.toInt = (n : Int)) (hcap : n ≤ cap) (hbig : cap * 8 ≤ 536870912) (hc : cl + 1 = cl') (hs : sl + cap = sl') (hc' : cl' ≤ R.cells) (hs' : sl' ≤ R.slots)
    (hr : ∀ h' a, a = h.size → Ext h h' → Arf Z h' a (newarray.typeOf aty) n (fun _ => defaultValue (newarray.typeOf aty)) → WP C Z code ml own rt nm R n0 Q cl' sl' h' pc' Ls (.ref a :: st)) : WP C Z code ml own rt nm R n0 Q cl sl h pc Ls (.int z :: st) := by
  subst hp hc hs
  have e0 : (0 : Int32).toInt = 0 := rfl
  have hzn : z.toNatClampNeg = n := by simp only [Int32.toNatClampNeg, hz]; omega
  have hzl : n < 2147483648 := by have := z.toInt_lt; omega
  intro k1 k2 k3 k4 k5 k6 k7 k8 T locs X e N
  obtain ⟨T', h', cA, X', e', E', A', k⟩ := RoadKit.newP X k1 k5 w e (g := mkF _ pc Ls (.int z :: st)) rfl (hb k2 hd) rfl (by rw [Int32.lt_iff_toInt_lt, hz, e0]; omega) (cap := cap) (by rw [hzn]; exact hcap) hbig hc' hs'
  obtain ⟨s₂, v', L', h1, h2⟩ := hr h' _ rfl E' ⟨_, A', by rw [sz_new, hzn], hzl, fun i hi => by simp [newA, hzn, hi], fun i _ => by cases aty <;> rfl⟩ k1 k2 k3 k4 k5 k6 k7 k8 T' _ X' e' N
  exact ⟨s₂, v', L', k _ h1, h2⟩
def updI (g : Nat → Int32) (i : Nat) (x : Int32) : Nat → Int32 := fun k => if k = i then x else g k
def Ari (Z : State) (h : Heap) (a : Addr) (ty : FieldType) (n : Nat) (g : Nat → Int32) : Prop := Arf Z h a ty n (fun i => .int (g i))
theorem Ari.lt {a : Addr} {ty : FieldType} {n : Nat} {g : Nat → Int32} (A : Ari Z h a ty n g) : a < h.size := Arf.lt A
theorem Ari.small {a : Addr} {ty : FieldType} {n : Nat} {g : Nat → Int32} (A : Ari Z h a ty n g) : n < 2147483648 := Arf.small A
theorem Ari.keep {h' : Heap} {ws : List Addr} {a : Addr} {ty : FieldType} {n : Nat} {g : Nat → Int32} (A : Ari Z h a ty n g) (K : Keep h h' ws) (q : a ∉ ws) : Ari Z h' a ty n g := Arf.keep A K q
theorem Ari.ext {h' : Heap} {a : Addr} {ty : FieldType} {n : Nat} {g : Nat → Int32} (A : Ari Z h a ty n g) (E : Ext h h') : Ari Z h' a ty n g := Arf.ext A E
theorem Ari.congr {a : Addr} {ty : FieldType} {n : Nat} {f g : Nat → Int32} (A : Ari Z h a ty n f) (q : ∀ i, i < n → f i = g i) : Ari Z h a ty n g := Arf.congr A fun i hi => congrArg Value.int (q i hi)
theorem upd_at (g : Nat → Int32) (i : Nat) (x : Int32) : updI g i x i = x := if_pos rfl
theorem upd_ne {g : Nat → Int32} {i k : Nat} {x : Int32} (q : k ≠ i) : updI g i x k = g k := if_neg q
theorem upd_if (g : Nat → Int32) (i : Nat) (x : Int32) : (fun k => if k = i then Value.int x else Value.int (g k)) = fun k => Value.int (updI g i x k) := by funext k; unfold updI; split <;> rfl
theorem litN (z : Int32) (n : Nat) (h : z.toInt = (n : Int)) : z.toInt = (n : Int) := h
theorem WP.baloadI {a : Addr} {j : Int32} {n : Nat} {g : Nat → Int32} {v : Int32} (i : Nat) (hd : decode code pc = .ok (.baload, 1)) (hp : pc + 1 = pc') (A : Ari Z h a .byte n g) (hi : j.toInt = (i : Int)) (hl : i < n) (hv : g i = v) (hr : WP C Z code ml own rt nm R n0 Q cl sl h pc' Ls (.int v :: st)) : WP C Z code ml own rt nm R n0 Q cl sl h pc Ls (.int j :: .ref a :: st) := WP.baload i hd hp A hi hl (congrArg Value.int hv) hr
theorem WP.baloadZI {a : Addr} {j : Int32} {n : Nat} {g : Nat → Int32} {v : Int32} (i : Nat) (hd : decode code pc = .ok (.baload, 1)) (hp : pc + 1 = pc') (A : Ari Z h a .boolean n g) (hi : j.toInt = (i : Int)) (hl : i < n) (hv : g i = v) (hr : WP C Z code ml own rt nm R n0 Q cl sl h pc' Ls (.int v :: st)) : WP C Z code ml own rt nm R n0 Q cl sl h pc Ls (.int j :: .ref a :: st) := WP.baloadZ i hd hp A hi hl (congrArg Value.int hv) hr
theorem WP.caloadI {a : Addr} {j : Int32} {n : Nat} {g : Nat → Int32} {v : Int32} (i : Nat) (hd : decode code pc = .ok (.caload, 1)) (hp : pc + 1 = pc') (A : Ari Z h a .char n g) (hi : j.toInt = (i : Int)) (hl : i < n) (hv : g i = v) (hr : WP C Z code ml own rt nm R n0 Q cl sl h pc' Ls (.int v :: st)) : WP C Z code ml own rt nm R n0 Q cl sl h pc Ls (.int j :: .ref a :: st) := WP.caload i hd hp A hi hl (congrArg Value.int hv) hr
theorem WP.ialoadI {a : Addr} {j : Int32} {n : Nat} {g : Nat → Int32} {v : Int32} (i : Nat) (hd : decode code pc = .ok (.iaload, 1)) (hp : pc + 1 = pc') (A : Ari Z h a .int n g) (hi : j.toInt = (i : Int)) (hl : i < n) (hv : g i = v) (hr : WP C Z code ml own rt nm R n0 Q cl sl h pc' Ls (.int v :: st)) : WP C Z code ml own rt nm R n0 Q cl sl h pc Ls (.int j :: .ref a :: st) := WP.iaload i hd hp A hi hl (congrArg Value.int hv) hr
theorem WP.saloadI {a : Addr} {j : Int32} {n : Nat} {g : Nat → Int32} {v : Int32} (i : Nat) (hd : decode code pc = .ok (.saload, 1)) (hp : pc + 1 = pc') (A : Ari Z h a .short n g) (hi : j.toInt = (i : Int)) (hl : i < n) (hv : g i = v) (hr : WP C Z code ml own rt nm R n0 Q cl sl h pc' Ls (.int v :: st)) : WP C Z code ml own rt nm R n0 Q cl sl h pc Ls (.int j :: .ref a :: st) := WP.saload i hd hp A hi hl (congrArg Value.int hv) hr
theorem WP.bastoreI {a : Addr} {j x x' : Int32} {n : Nat} {g : Nat → Int32} (i : Nat) (hd : decode code pc = .ok (.bastore, 1)) (hp : pc + 1 = pc') (A : Ari Z h a .byte n g) (hi : j.toInt = (i : Int)) (hl : i < n) (ge : n0 ≤ a) (hx : nar .byte x = x') (hr : ∀ h', Keep h h' [a] → Ari Z h' a .byte n (updI g i x') → WP C Z code ml own rt nm R n0 Q cl sl h' pc' Ls st) : WP C Z code ml own rt nm R n0 Q cl sl h pc Ls (.int x :: .int j :: .ref a :: st) := by
  subst hx
  exact WP.bastore i hd hp A hi hl ge fun h' K A' => hr h' K (by unfold Ari; rw [← upd_if]; exact A')
theorem WP.castoreI {a : Addr} {j x x' : Int32} {n : Nat} {g : Nat → Int32} (i : Nat) (hd : decode code pc = .ok (.castore, 1)) (hp : pc + 1 = pc') (A : Ari Z h a .char n g) (hi : j.toInt = (i : Int)) (hl : i < n) (ge : n0 ≤ a) (hx : nar .char x = x') (hr : ∀ h', Keep h h' [a] → Ari Z h' a .char n (updI g i x') → WP C Z code ml own rt nm R n0 Q cl sl h' pc' Ls st) : WP C Z code ml own rt nm R n0 Q cl sl h pc Ls (.int x :: .int j :: .ref a :: st) := by
  subst hx
  exact WP.castore i hd hp A hi hl ge fun h' K A' => hr h' K (by unfold Ari; rw [← upd_if]; exact A')
theorem WP.iastoreI {a : Addr} {j x x' : Int32} {n : Nat} {g : Nat → Int32} (i : Nat) (hd : decode code pc = .ok (.iastore, 1)) (hp : pc + 1 = pc') (A : Ari Z h a .int n g) (hi : j.toInt = (i : Int)) (hl : i < n) (ge : n0 ≤ a) (hx : x = x') (hr : ∀ h', Keep h h' [a] → Ari Z h' a .int n (updI g i x') → WP C Z code ml own rt nm R n0 Q cl sl h' pc' Ls st) : WP C Z code ml own rt nm R n0 Q cl sl h pc Ls (.int x :: .int j :: .ref a :: st) := by
  subst hx
  exact WP.iastore i hd hp A hi hl ge fun h' K A' => hr h' K (by unfold Ari; rw [← upd_if]; exact A')
theorem WP.newPI {aty : ArrayType} {ty : FieldType} {z : Int32} {n cap : Nat} {cl' sl' : Nat} (hd : decode code pc = .ok (.newarray aty, 2)) (hp : pc + 2 = pc') (hty : newarray.typeOf aty = ty) (hdv : defaultValue ty = .int 0) (w : (Jvm.Cond.arrayClass ty).before a0 Z = true) (hz : z.toInt = (n : Int)) (hcap : n ≤ cap) (hbig : cap * 8 ≤ 536870912) (hc : cl + 1 = cl') (hs : sl + cap = sl') (hc' : cl' ≤ R.cells) (hs' : sl' ≤ R.slots)
    (hr : ∀ h' a, a = h.size → Ext h h' → Ari Z h' a ty n (fun _ => 0) → WP C Z code ml own rt nm R n0 Q cl' sl' h' pc' Ls (.ref a :: st)) : WP C Z code ml own rt nm R n0 Q cl sl h pc Ls (.int z :: st) := by
  subst hty
  exact WP.newP hd hp w hz hcap hbig hc hs hc' hs' fun h' a e E A => hr h' a e E (by rw [hdv] at A; exact A)
theorem WP.arraylengthI {a : Addr} {n : Nat} {g : Nat → Int32} {ty : FieldType} {z : Int32} (hd : decode code pc = .ok (.arraylength, 1)) (hp : pc + 1 = pc') (A : Ari Z h a ty n g) (hz : n.toInt32 = z) (hr : WP C Z code ml own rt nm R n0 Q cl sl h pc' Ls (.int z :: st)) : WP C Z code ml own rt nm R n0 Q cl sl h pc Ls (.ref a :: st) := WP.arraylength hd hp A hz hr
/-- the array's class is that of arrays of C -/
def Ocl (Z : State) (h : Heap) (a : Addr) (K : String) : Prop := ∃ c : Cell, h[a]? = some c ∧ Ovr Z c.cls K
theorem Ocl.ext {h' : Heap} {a : Addr} {K : String} (O : Ocl Z h a K) (E : Ext h h') : Ocl Z h' a K := by obtain ⟨c, h1, h2⟩ := O; exact ⟨c, E.2 _ _ h1, h2⟩
theorem Ocl.keep {h' : Heap} {ws : List Addr} {a : Addr} {K : String} (O : Ocl Z h a K) (E : Keep h h' ws) : Ocl Z h' a K := by
  obtain ⟨c, h1, h2⟩ := O
  obtain ⟨c', q1, q2, -⟩ := E.2.2 _ _ h1
  exact ⟨c', q1, by rw [q2]; exact h2⟩
theorem Ocl.sto {a y : Addr} {K : String} {ty : FieldType} {n : Nat} {f : Nat → Value} (O : Ocl Z h a K) (A : Arf Z h a ty n f) (I : Ins Z h y K true) : Sto Z h a (.ref y) := by
  obtain ⟨c, h1, h2⟩ := O
  obtain ⟨c', A, -⟩ := A
  cases h1.symm.trans A.1
  exact Sto.of A h2 I
def updV (g : Nat → Value) (i : Nat) (x : Value) : Nat → Value := fun k => if k = i then x else g k
theorem WP.newR {i n cap : Nat} {K : String} {z : Int32} {cl' sl' : Nat} (hd : decode code pc = .ok (.anewarray i, 3)) (hp : pc + 3 = pc') (w1 : (Jvm.Cond.classLink own i K).before a0 Z = true) (w2 : (Jvm.Cond.arrayOver (.object K)).before a0 Z = true) (hz : z.toInt = (n : Int)) (hcap : n ≤ cap) (hbig : cap * 8 ≤ 536870912) (hc : cl + 1 = cl') (hs : sl + cap = sl') (hc' : cl' ≤ R.cells) (hs' : sl' ≤ R.slots)
    (hr : ∀ h' a, a = h.size → Ext h h' → Arf Z h' a (.object K) n (fun _ => .null) → Ocl Z h' a K → WP C Z code ml own rt nm R n0 Q cl' sl' h' pc' Ls (.ref a :: st)) : WP C Z code ml own rt nm R n0 Q cl sl h pc Ls (.int z :: st) := by
  subst hp hc hs
  have e0 : (0 : Int32).toInt = 0 := rfl
  have hzn : z.toNatClampNeg = n := by simp only [Int32.toNatClampNeg, hz]; omega
  have hzl : n < 2147483648 := by have := z.toInt_lt; omega
  intro k1 k2 k3 k4 k5 k6 k7 k8 T locs X e N
  obtain ⟨T', h', cA, X', e', E', A', O', k⟩ := RoadKit.newR X k1 k5 k4 w1 w2 e (g := mkF _ pc Ls (.int z :: st)) rfl (hb k2 hd) rfl (by rw [Int32.lt_iff_toInt_lt, hz, e0]; omega) (cap := cap) (by rw [hzn]; exact hcap) hbig hc' hs'
  obtain ⟨s₂, v', L', h1, h2⟩ := hr h' _ rfl E' ⟨_, A', by rw [sz_new, hzn], hzl, fun i hi => by simp [newA, hzn, hi, defaultValue], fun i _ => rfl⟩ ⟨_, A'.1, O'⟩ k1 k2 k3 k4 k5 k6 k7 k8 T' _ X' e' N
  exact ⟨s₂, v', L', k _ h1, h2⟩
theorem WP.aastore {a : Addr} {j : Int32} {x : Value} {n : Nat} {f : Nat → Value} {ty : FieldType} (i : Nat) (hd : decode code pc = .ok (.aastore, 1)) (hp : pc + 1 = pc') (A : Arf Z h a ty n f) (hty : ty.isReference = true) (F : Sto Z h a x) (hf : fits ty x = true) (hi : j.toInt = (i : Int)) (hl : i < n) (ge : n0 ≤ a) (hr : ∀ h', Keep h h' [a] → Arf Z h' a ty n (updV f i x) → WP C Z code ml own rt nm R n0 Q cl sl h' pc' Ls st) : WP C Z code ml own rt nm R n0 Q cl sl h pc Ls (x :: .int j :: .ref a :: st) := by
  subst hp
  obtain ⟨c, A, r1, r2, r3, r4⟩ := A
  obtain ⟨q1, q2⟩ := idxN hi hl
  intro k1 k2 k3 k4 k5 k6 k7 k8 T locs X e N
  obtain ⟨T', h', X', e', W', k⟩ := stR X k1 k5 e A (j := j) (by rw [r1]; exact q1) hty F (g := mkF _ pc Ls (x :: .int j :: .ref a :: st)) rfl rfl (hb k2 hd)
  obtain ⟨s₂, v', L', h1, h2⟩ := hr h' (Keep.of_wr W') (Arf.set A r1 r2 r3 r4 hf W' q2 hl) k1 k2 k3 k4 k5 k6 k7 k8 T' _ X' e' (Fr.snoc X' N ge)
  exact ⟨s₂, v', L', k _ h1, h2⟩
theorem getD_range {f : Nat → Int32} {m n : Nat} (h : m < n) : ((List.range n).map fun i => Value.int (f i)).getD m (.int 0) = .int (f m) := by
  simp [List.getD_eq_getElem?_getD, h]
theorem Ari.arv {a : Addr} {ty : FieldType} {n : Nat} {g : Nat → Int32} (A : Ari Z h a ty n g) : ∃ (k : ClassId) (z : Int32), z.toNatClampNeg = n ∧ Arv Z h a k ty z ((List.range n).map fun i => Value.int (g i)) (.int 0) := by
  obtain ⟨c, A, r1, r2, r3, r4⟩ := A
  have e1 : n.toInt32.toInt = (n : Int) := len_toInt r2
  have e0 : (0 : Int32).toInt = 0 := rfl
  have e2 : n.toInt32.toNatClampNeg = n := by simp only [Int32.toNatClampNeg, e1]; omega
  refine ⟨c.cls, n.toInt32, e2, c, A, rfl, by rw [e2]; exact r1, by rw [Int32.lt_iff_toInt_lt, e1, e0]; omega, fun i hi => ?_, fun i hi => ?_⟩
  · rw [r1] at hi; rw [getD_range hi]; exact r3 i hi
  · rw [r1] at hi; rw [getD_range hi]; exact r4 i hi
/-- n elements of f from sp on, laid into g from dp on -/
def blit (f g : Nat → Int32) (sp dp n : Nat) : Nat → Int32 := fun k => if dp ≤ k ∧ k < dp + n then f (sp + (k - dp)) else g k
theorem WP.arraycopy {i : Nat} {a b : Addr} {ty : FieldType} {na nb sp dp nn wd : Nat} {zs zd zn : Int32} {f g : Nat → Int32} (hd : decode code pc = .ok (.invokestatic i, 3)) (hp : pc + 3 = pc') (w1 : (Jvm.Cond.methodLink own i Jvm.Stand.acN).before a0 Z = true) (w2 : (Jvm.Cond.native Jvm.Stand.acN).before a0 Z = true) (w3 : (Jvm.Cond.static Jvm.Stand.acN).before a0 Z = true) (w4 : (Jvm.Cond.initialized "java/lang/System").before a0 Z = true) (A : Ari Z h a ty na f) (B : Ari Z h b ty nb g) (hty : refKind ty = false) (hs1 : zs.toInt = (sp : Int)) (hd1 : zd.toInt = (dp : Int)) (hn1 : zn.toInt = (nn : Int)) (h4 : sp + nn ≤ na) (h5 : dp + nn ≤ nb) (ge : n0 ≤ b) (hml : Ls.size = ml) (hf : 1 ≤ R.frames) (hw : (st.map fun v => v.category).sum ≤ wd) (hlo : wd + (nativeFrameWords "java/lang/System" "arraycopy" 5 + 11) ≤ R.locals)
    (hr : ∀ h', Keep h h' [b] → Ari Z h' b ty nb (blit f g sp dp nn) → WP C Z code ml own rt nm R n0 Q cl sl h' pc' Ls st) : WP C Z code ml own rt nm R n0 Q cl sl h pc Ls (.int zn :: .int zd :: .ref b :: .int zs :: .ref a :: st) := by
  subst hp
  obtain ⟨ka, za, ea, A'⟩ := A.arv
  obtain ⟨kb, zb, eb, B'⟩ := B.arv
  have hsm := B.small
  have e0 : (0 : Int32).toInt = 0 := rfl
  have q1 : zs.toNatClampNeg = sp := by simp only [Int32.toNatClampNeg, hs1]; omega
  have q2 : zd.toNatClampNeg = dp := by simp only [Int32.toNatClampNeg, hd1]; omega
  have q3 : zn.toNatClampNeg = nn := by simp only [Int32.toNatClampNeg, hn1]; omega
  intro k1 k2 k3 k4 k5 k6 k7 k8 T locs X e N
  obtain ⟨T', h', L', X', e', N', K', V', k⟩ := cpA X k1 k5 k4 w1 w2 w3 w4 e (sp := zs) (dp := zd) (nn := zn) A' B' (Or.inl ⟨rfl, hty⟩) (by rw [Int32.lt_iff_toInt_lt, hs1, e0]; omega) (by rw [Int32.lt_iff_toInt_lt, hd1, e0]; omega) (by rw [Int32.lt_iff_toInt_lt, hn1, e0]; omega) (by rw [q1, q3, ea]; exact h4) (by rw [q2, q3, eb]; exact h5) rfl (by rw [q2, q3, List.length_map, List.length_range]; exact h5) N ge (g := mkF _ pc Ls (.int zn :: .int zd :: .ref b :: .int zs :: .ref a :: st)) rfl (by rw [k3]; exact hml) rfl (hb k2 hd) hf (W := wd) (by show 2 * 0 + _ ≤ _; omega) hlo
  rw [q1, q2, q3] at V'
  have VV : Ari Z h' b ty nb (blit f g sp dp nn) := by
    obtain ⟨c, A, r1, r2, r3, H, G⟩ := V'
    rw [eb] at r2
    have key : ∀ i, i < nb → (((List.range nb).map fun i => Value.int (g i)).take dp ++ (List.range nn).map (fun i => ((List.range na).map fun i => Value.int (f i)).getD (sp + i) (.int 0)) ++ ((List.range nb).map fun i => Value.int (g i)).drop (dp + nn)).getD i (.int 0) = .int (blit f g sp dp nn i) := by
      intro i hi
      simp only [List.getD_eq_getElem?_getD, blit]
      by_cases c1 : i < dp
      · rw [List.append_assoc, List.getElem?_append_left (by simp; omega), if_neg (by omega)]; simp [List.getElem?_take, c1, hi]
      · by_cases c2 : i < dp + nn
        · rw [List.getElem?_append_left (by simp; omega), List.getElem?_append_right (by simp; omega), if_pos (by omega)]
          have z1 : min dp nb = dp := by omega
          have z2 : i - dp < nn := by omega
          have z3 : sp + (i - dp) < na := by omega
          simp [z1, z2, z3]
        · rw [List.getElem?_append_right (by simp; omega), if_neg (by omega)]
          have z1 : min dp nb = dp := by omega
          have z2 : dp + nn + (i - (dp + nn)) = i := by omega
          simp [z1, z2, hi]
    exact ⟨c, A, r2, hsm, fun i hi => by rw [H i (by rw [r2]; exact hi), key i hi], fun i hi => by have := G i (by rw [r2]; exact hi); rw [key i hi] at this; exact this⟩
  obtain ⟨s₂, v', L2, h1, h2⟩ := hr h' K' VV k1 k2 k3 k4 k5 k6 k7 k8 T' _ X' e' N'
  exact ⟨s₂, v', L2, k _ h1, h2⟩
theorem WP.initO {i : Nat} {a : Addr} {wd : Nat} (hd : decode code pc = .ok (.invokespecial i, 3)) (hp : pc + 3 = pc') (w1 : (Jvm.Cond.methodLink own i Lib.objectInit).before a0 Z = true) (w2 : (Jvm.Cond.instanceMethod Lib.objectInit).before a0 Z = true) (w3 : (Jvm.Cond.code Lib.objectInit ⟨#[0xb1]⟩ 1 none).before a0 Z = true) (hml : Ls.size = ml) (hf : 1 ≤ R.frames) (hw : (st.map fun v => v.category).sum ≤ wd) (hl : wd + 12 ≤ R.locals) (hr : WP C Z code ml own rt nm R n0 Q cl sl h pc' Ls st) : WP C Z code ml own rt nm R n0 Q cl sl h pc Ls (.ref a :: st) := by
  subst hp
  refine hr.step fun X hx hby hml' hown hZ hnm eT N => ?_
  obtain ⟨T', X', e', k⟩ := RoadKit.initO X hx hZ hown w1 w2 w3 eT (g := mkF _ pc Ls (.ref a :: st)) rfl (by rw [hml']; exact hml) rfl (hb hby hd) hf (W := wd) (by show 2 * 0 + _ ≤ _; omega) hl
  exact ⟨T', _, X', e', N, fun t q => k t q⟩
theorem WP.callS {i : Nat} {y : MethodName} {code' : ByteArray} {ml' wd cl' sl' : Nat} {rt' : Option FieldType} {R' : Room} {Q' : Option Value → Heap → Prop} {argsL rest : List Value} {ps : List FieldType} {rr : Option FieldType} (hd : decode code pc = .ok (.invokestatic i, 3)) (hp : pc + 3 = pc') (w1 : (Jvm.Cond.methodLink own i y).before a0 Z = true) (w2 : (Jvm.Cond.static y).before a0 Z = true) (w3 : (Jvm.Cond.initialized y.cls).before a0 Z = true) (w4 : (Jvm.Cond.code y code' ml' rt').before a0 Z = true) (hy : y.cls ≠ "java/lang/invoke/MethodHandle" ∧ y.cls ≠ "java/lang/invoke/VarHandle") (hM : ∀ l, Does l Z y code' ml' rt' R' n0 argsL.toArray h Q') (hpd : parseMethodDescriptor y.desc = some ⟨ps, rr⟩) (hlen : argsL.length = ps.length) (hst : st = argsL.reverse ++ rest) (hml : Ls.size = ml) (hw : (rest.map fun v => v.category).sum ≤ wd) (hrm : R'.frames + 1 ≤ R.frames) (hlo : wd + (ml' + 11) + R'.locals ≤ R.locals) (hc : cl + R'.cells = cl') (hs : sl + R'.slots = sl') (hc' : cl' ≤ R.cells) (hs' : sl' ≤ R.slots)
    (hr : ∀ v h', Q' v h' → WP C Z code ml own rt nm R n0 Q cl' sl' h' pc' Ls (v.toList ++ rest)) : WP C Z code ml own rt nm R n0 Q cl sl h pc Ls st := by
  subst hp hc hs
  intro k1 k2 k3 k4 k5 k6 k7 k8 T locs X e N
  obtain ⟨v, _, ⟨T', L', c', n'⟩, -, X', ⟨Lc, hQ, l1, y1, z1⟩, k⟩ := Jvm.LawKit.callS X k1 (y := y) k4 (mvT k5 w1) (mvT k5 w2) (mvT k5 w3) (mvT k5 w4) hy (backOf (W := wd) (Q := fun v h L => Q' v h ∧ Fr n0 L) (hM _ []) k5 w4 w3 hrm hlo) (g := mkF _ pc Ls st) rfl (by rw [k3]; exact hml) (argsL := argsL) (rest := rest) (lenOf hpd hlen) hst (by show 2 * 0 + _ ≤ _; omega) (hb k2 hd) (fun _ _ => ⟨rfl, e, hc', hs'⟩)
  dsimp only [Pt.U, Pt.locs, Pt.cells, Pt.slots] at X' l1 y1 z1 k hQ
  subst l1 y1 z1
  obtain ⟨s₂, v', L2, h1, h2⟩ := hr v _ hQ.1 k1 k2 k3 k4 k5 k6 k7 k8 T' _ X' rfl (Fr.app N hQ.2)
  exact ⟨s₂, v', L2, k _ h1, h2⟩
theorem WP.callI {a : Addr} {i : Nat} {y : MethodName} {code' : ByteArray} {ml' wd cl' sl' : Nat} {R' : Room} {Q' : Option Value → Heap → Prop} {argsL rest : List Value} {ps : List FieldType} {rr : Option FieldType} (hd : decode code pc = .ok (.invokespecial i, 3)) (hp : pc + 3 = pc') (hy1 : y.name = "<init>") (w1 : (Jvm.Cond.methodLink own i y).before a0 Z = true) (w2 : (Jvm.Cond.instanceMethod y).before a0 Z = true) (w3 : (Jvm.Cond.initialized y.cls).before a0 Z = true) (w4 : (Jvm.Cond.code y code' ml' none).before a0 Z = true) (hy : y.cls ≠ "java/lang/invoke/MethodHandle" ∧ y.cls ≠ "java/lang/invoke/VarHandle") (hM : ∀ l, Does l Z y code' ml' none R' n0 (.ref a :: argsL).toArray h Q') (hpd : parseMethodDescriptor y.desc = some ⟨ps, rr⟩) (hlen : argsL.length = ps.length) (hst : st = argsL.reverse ++ .ref a :: rest) (hml : Ls.size = ml) (hw : (rest.map fun v => v.category).sum ≤ wd) (hrm : R'.frames + 1 ≤ R.frames) (hlo : wd + (ml' + 11) + R'.locals ≤ R.locals) (hc : cl + R'.cells = cl') (hs : sl + R'.slots = sl') (hc' : cl' ≤ R.cells) (hs' : sl' ≤ R.slots)
    (hr : ∀ v h', Q' v h' → WP C Z code ml own rt nm R n0 Q cl' sl' h' pc' Ls (v.toList ++ rest)) : WP C Z code ml own rt nm R n0 Q cl sl h pc Ls st := by
  subst hp hc hs
  intro k1 k2 k3 k4 k5 k6 k7 k8 T locs X e N
  obtain ⟨v, _, ⟨T', L', c', n'⟩, -, X', ⟨Lc, hQ, l1, y1, z1⟩, k⟩ := X.specialBack k1 (y := y) hy1 k4 (mvT k5 w1) (mvT k5 w2) (mvT k5 w4) hy (backOf (W := wd) (Q := fun v h L => Q' v h ∧ Fr n0 L) (hM _ []) k5 w4 w3 hrm hlo) (g := mkF _ pc Ls st) rfl (by rw [k3]; exact hml) (Steps.refl _) (a := a) (argsL := argsL) (rest := rest) (lenOf hpd hlen) hst (by show 2 * 0 + _ ≤ _; omega) (hb k2 hd) (fun _ _ => ⟨rfl, e, hc', hs'⟩)
  dsimp only [Pt.U, Pt.locs, Pt.cells, Pt.slots] at X' l1 y1 z1 k hQ
  subst l1 y1 z1
  obtain ⟨s₂, v', L2, h1, h2⟩ := hr v _ hQ.1 k1 k2 k3 k4 k5 k6 k7 k8 T' _ X' rfl (Fr.app N hQ.2)
  exact ⟨s₂, v', L2, k.trans h1, h2⟩
theorem WP.callV {a : Addr} {z : MethodName} {K : String} {i : Nat} {y : MethodName} {code' : ByteArray} {ml' wd cl' sl' : Nat} {rt' : Option FieldType} {R' : Room} {Q' : Option Value → Heap → Prop} {argsL rest : List Value} {ps : List FieldType} {rr : Option FieldType} (hd : decode code pc = .ok (.invokevirtual i, 3)) (hp : pc + 3 = pc') (w1 : (Jvm.Cond.methodLink own i y).before a0 Z = true) (wd1 : (Jvm.Cond.declares y).before a0 Z = true) (hnf : ∀ s : State, Z.Warmed39 s.vm → NotFace s y) (ws : (Jvm.Cond.selects K y z).before a0 Z = true) (w2 : (Jvm.Cond.instanceMethod z).before a0 Z = true) (w3 : (Jvm.Cond.initialized z.cls).before a0 Z = true) (w4 : (Jvm.Cond.code z code' ml' rt').before a0 Z = true) (hy : y.cls ≠ "java/lang/invoke/MethodHandle" ∧ y.cls ≠ "java/lang/invoke/VarHandle") (E : Exa Z h a K) (hM : ∀ l, Does l Z z code' ml' rt' R' n0 (.ref a :: argsL).toArray h Q') (hpd : parseMethodDescriptor y.desc = some ⟨ps, rr⟩) (hlen : argsL.length = ps.length) (hst : st = argsL.reverse ++ .ref a :: rest) (hml : Ls.size = ml) (hw : (rest.map fun v => v.category).sum ≤ wd) (hrm : R'.frames + 1 ≤ R.frames) (hlo : wd + (ml' + 11) + R'.locals ≤ R.locals) (hc : cl + R'.cells = cl') (hs : sl + R'.slots = sl') (hc' : cl' ≤ R.cells) (hs' : sl' ≤ R.slots)
    (hr : ∀ v h', Q' v h' → WP C Z code ml own rt nm R n0 Q cl' sl' h' pc' Ls (v.toList ++ rest)) : WP C Z code ml own rt nm R n0 Q cl sl h pc Ls st := by
  subst hp hc hs
  intro k1 k2 k3 k4 k5 k6 k7 k8 T locs X e N
  obtain ⟨cq, kq, q1, q2, q3⟩ := isOf k5 e E
  obtain ⟨v, _, ⟨T', L', c', n'⟩, -, X', ⟨Lc, hQ, l1, y1, z1⟩, k⟩ := X.virtualBack k1 (y := y) (z := z) k4 (mvT k5 w1) (mvT k5 wd1) (hnf _ k5) (mvT k5 ws) (mvT k5 w2) hy (backOf (W := wd) (Q := fun v h L => Q' v h ∧ Fr n0 L) (hM _ []) k5 w4 w3 hrm hlo) q1 q3 (g := mkF _ pc Ls st) rfl (by rw [k3]; exact hml) (Steps.refl _) (argsL := argsL) (rest := rest) (lenOf hpd hlen) hst (by show 2 * 0 + _ ≤ _; omega) (hb k2 hd) (fun _ _ => ⟨rfl, e, hc', hs'⟩)
  dsimp only [Pt.U, Pt.locs, Pt.cells, Pt.slots] at X' l1 y1 z1 k hQ
  subst l1 y1 z1
  obtain ⟨s₂, v', L2, h1, h2⟩ := hr v _ hQ.1 k1 k2 k3 k4 k5 k6 k7 k8 T' _ X' rfl (Fr.app N hQ.2)
  exact ⟨s₂, v', L2, k.trans h1, h2⟩
theorem nfS {y z : MethodName} {K : String} (ws : (Jvm.Cond.selects K y z).before a0 Z = true) (e : y = z) : ∀ s : State, Z.Warmed39 s.vm → NotFace s y := by subst e; exact fun s k => notFace_of_selects (args := #[]) (mvT k ws)
theorem WP.callP {a : Addr} {K : String} {i : Nat} {y : MethodName} {code' : ByteArray} {ml' wd cl' sl' : Nat} {rt' : Option FieldType} {R' : Room} {Q' : Option Value → Heap → Prop} {argsL rest : List Value} {ps : List FieldType} {rr : Option FieldType} (hd : decode code pc = .ok (.invokevirtual i, 3)) (hp : pc + 3 = pc') (w1 : (Jvm.Cond.methodLink own i y).before a0 Z = true) (w2 : (Jvm.Cond.instanceMethod y).before a0 Z = true) (ws : (Jvm.Cond.selects y.cls y y).before a0 Z = true) (wp : (Jvm.Cond.privateMethod y).before a0 Z = true) (w3 : (Jvm.Cond.initialized y.cls).before a0 Z = true) (w4 : (Jvm.Cond.code y code' ml' rt').before a0 Z = true) (hy : y.cls ≠ "java/lang/invoke/MethodHandle" ∧ y.cls ≠ "java/lang/invoke/VarHandle") (E : Exa Z h a K) (hM : ∀ l, Does l Z y code' ml' rt' R' n0 (.ref a :: argsL).toArray h Q') (hpd : parseMethodDescriptor y.desc = some ⟨ps, rr⟩) (hlen : argsL.length = ps.length) (hst : st = argsL.reverse ++ .ref a :: rest) (hml : Ls.size = ml) (hw : (rest.map fun v => v.category).sum ≤ wd) (hrm : R'.frames + 1 ≤ R.frames) (hlo : wd + (ml' + 11) + R'.locals ≤ R.locals) (hc : cl + R'.cells = cl') (hs : sl + R'.slots = sl') (hc' : cl' ≤ R.cells) (hs' : sl' ≤ R.slots)
    (hr : ∀ v h', Q' v h' → WP C Z code ml own rt nm R n0 Q cl' sl' h' pc' Ls (v.toList ++ rest)) : WP C Z code ml own rt nm R n0 Q cl sl h pc Ls st := by
  subst hp hc hs
  intro k1 k2 k3 k4 k5 k6 k7 k8 T locs X e N
  obtain ⟨cq, q1, q2⟩ := E.cell
  obtain ⟨v, _, ⟨T', L', c', n'⟩, -, X', ⟨Lc, hQ, l1, y1, z1⟩, k⟩ := X.privateBack k1 (y := y) k4 (mvT k5 w1) (mvT k5 w2) (mvT k5 ws) (Cond.privateMethod_at (mvP k5 wp (args := #[]))) (mvT k5 w4) hy (backOf (W := wd) (Q := fun v h L => Q' v h ∧ Fr n0 L) (hM _ []) k5 w4 w3 hrm hlo) (g := mkF _ pc Ls st) rfl (by rw [k3]; exact hml) (Steps.refl _) (a := a) (by rw [e]; exact q1) q2 (argsL := argsL) (rest := rest) (lenOf hpd hlen) hst (by show 2 * 0 + _ ≤ _; omega) (hb k2 hd) (fun _ _ => ⟨rfl, e, hc', hs'⟩)
  dsimp only [Pt.U, Pt.locs, Pt.cells, Pt.slots] at X' l1 y1 z1 k hQ
  subst l1 y1 z1
  obtain ⟨s₂, v', L2, h1, h2⟩ := hr v _ hQ.1 k1 k2 k3 k4 k5 k6 k7 k8 T' _ X' rfl (Fr.app N hQ.2)
  exact ⟨s₂, v', L2, k.trans h1, h2⟩
theorem WP.iret {z : Int32} (hd : decode code pc = .ok (.ireturn, 1)) (hrt : rt = some .int) (hc : cl ≤ R.cells) (hs : sl ≤ R.slots) (hq : Q (some (.int z)) h) : WP C Z code ml own rt nm R n0 Q cl sl h pc Ls (.int z :: st) := by
  intro k1 k2 k3 k4 k5 k6 k7 k8 T locs X e N
  obtain ⟨fs, hr', hrun, hended, hW, hsame⟩ := X.leave (v := some (.int z)) (fun q => by rw [k6, hrt] at q; cases q) k7
  exact ⟨_, _, _, retOut X k1 (t := .int) (k6.trans hrt) rfl (Or.inl ⟨rfl, Or.inl rfl, _, rfl⟩) (hb k2 hd) hr', hrun, hended, by show Q _ T.heap; rw [e]; exact hq, N, ⟨_, rfl⟩, hW, hsame.mono hc hs⟩
theorem WP.lret {z : Int64} (hd : decode code pc = .ok (.lreturn, 1)) (hrt : rt = some .long) (hc : cl ≤ R.cells) (hs : sl ≤ R.slots) (hq : Q (some (.long z)) h) : WP C Z code ml own rt nm R n0 Q cl sl h pc Ls (.long z :: st) := by
  intro k1 k2 k3 k4 k5 k6 k7 k8 T locs X e N
  obtain ⟨fs, hr', hrun, hended, hW, hsame⟩ := X.leave (v := some (.long z)) (fun q => by rw [k6, hrt] at q; cases q) k7
  exact ⟨_, _, _, retOut X k1 (t := .long) (k6.trans hrt) rfl (Or.inr (Or.inl ⟨rfl, rfl, _, rfl⟩)) (hb k2 hd) hr', hrun, hended, by show Q _ T.heap; rw [e]; exact hq, N, ⟨_, rfl⟩, hW, hsame.mono hc hs⟩
theorem WP.dret {z : UInt64} (hd : decode code pc = .ok (.dreturn, 1)) (hrt : rt = some .double) (hc : cl ≤ R.cells) (hs : sl ≤ R.slots) (hq : Q (some (.double z)) h) : WP C Z code ml own rt nm R n0 Q cl sl h pc Ls (.double z :: st) := by
  intro k1 k2 k3 k4 k5 k6 k7 k8 T locs X e N
  obtain ⟨fs, hr', hrun, hended, hW, hsame⟩ := X.leave (v := some (.double z)) (fun q => by rw [k6, hrt] at q; cases q) k7
  exact ⟨_, _, _, retOut X k1 (t := .double) (k6.trans hrt) rfl (Or.inr (Or.inr (Or.inl ⟨rfl, rfl, _, rfl⟩))) (hb k2 hd) hr', hrun, hended, by show Q _ T.heap; rw [e]; exact hq, N, ⟨_, rfl⟩, hW, hsame.mono hc hs⟩
theorem WP.aret {z : Value} (hd : decode code pc = .ok (.areturn, 1)) {t : FieldType} (hrt : rt = some t) (ht : t.isReference = true) (hv : z.isRef = true) (hc : cl ≤ R.cells) (hs : sl ≤ R.slots) (hq : Q (some z) h) : WP C Z code ml own rt nm R n0 Q cl sl h pc Ls (z :: st) := by
  intro k1 k2 k3 k4 k5 k6 k7 k8 T locs X e N
  obtain ⟨fs, hr', hrun, hended, hW, hsame⟩ := X.leave (v := some z) (fun q => by rw [k6, hrt] at q; cases q) k7
  exact ⟨_, _, _, retOut X k1 (t := t) (k6.trans hrt) (by cases t <;> first | (cases ht; done) | rfl) (Or.inr (Or.inr (Or.inr (Or.inr ⟨rfl, ht, hv⟩)))) (hb k2 hd) hr', hrun, hended, by show Q _ T.heap; rw [e]; exact hq, N, ⟨_, rfl⟩, hW, hsame.mono hc hs⟩
theorem WP.nret {z : Int32} (hd : decode code pc = .ok (.ireturn, 1)) {t : FieldType} {z' : Int32} (hrt : rt = some t) (ht : t = .boolean ∨ t = .byte ∨ t = .char ∨ t = .short) (hz : nar t z = z') (hc : cl ≤ R.cells) (hs : sl ≤ R.slots) (hq : Q (some (.int z')) h) : WP C Z code ml own rt nm R n0 Q cl sl h pc Ls (.int z :: st) := by
  intro k1 k2 k3 k4 k5 k6 k7 k8 T locs X e N
  obtain ⟨fs, hr', hrun, hended, hW, hsame⟩ := X.leave (v := some (.int z')) (fun q => by rw [k6, hrt] at q; cases q) k7
  exact ⟨_, _, _, retN X k1 (t := t) (k6.trans hrt) ht (hb k2 hd) (by rw [hz]; exact hr'), hrun, hended, by show Q _ T.heap; rw [e]; exact hq, N, ⟨_, rfl⟩, hW, hsame.mono hc hs⟩
theorem WP.vret (hd : decode code pc = .ok (.return_, 1)) (hrt : rt = none) (hc : cl ≤ R.cells) (hs : sl ≤ R.slots) (hq : Q none h) : WP C Z code ml own rt nm R n0 Q cl sl h pc Ls [] := by
  intro k1 k2 k3 k4 k5 k6 k7 k8 T locs X e N
  obtain ⟨fs, hr', hrun, hended, hW, hsame⟩ := X.leave (v := none) (fun _ => rfl) k7
  exact ⟨_, _, _, X.returnOut k1 (k6.trans hrt) (hb k2 hd) hr', hrun, hended, by show Q _ T.heap; rw [e]; exact hq, N, ⟨_, rfl⟩, hW, hsame.mono hc hs⟩
end Rules
end Jvm.WK
namespace Jvm.WK
open Jvm Sem ClassFile Op Lib Jvm.Free Jvm.Stand Jvm.LawKit Jvm.RoadKit
def b2i (b : Bool) : Int32 := if b then 1 else 0
theorem b2i_t {P : Prop} [Decidable P] (h : P) : some (Value.int 1) = some (Value.int (b2i (decide P))) := by rw [decide_eq_true h]; rfl
theorem b2i_f {P : Prop} [Decidable P] (h : ¬ P) : some (Value.int 0) = some (Value.int (b2i (decide P))) := by rw [decide_eq_false h]; rfl
theorem b2i_congr {P P' : Prop} [Decidable P] [Decidable P'] (h : P ↔ P') : b2i (decide P) = b2i (decide P') := by rw [decide_eq_decide.mpr h]
theorem b2i_1 {b : Bool} : b2i b = 1 ↔ b = true := by cases b <;> simp [b2i]
theorem b2i_0 {b : Bool} : b2i b = 0 ↔ b = false := by cases b <;> simp [b2i]
theorem b2i_one (b : Bool) : b2i b &&& 1 = b2i b := by cases b <;> rfl
theorem eqInt_v {args : Array Value} {first s : State} {o : Option Outcome} {idx : List Nat} {t : Term} {k : Int32} (h : (Jvm.Cond.eq t (.int k)).value args first o s idx = some true) : t.eval args first o idx s = some (.int k) := by
  obtain ⟨x, y, e1, e2, k1, k2⟩ := cmp_v (Or.inl h)
  have e3 : y = .int k := by simpa [Term.eval] using e2.symm
  subst e3
  obtain ⟨z, rfl⟩ := k2
  simp [Cond.value, e1, Term.eval] at h
  rw [e1, h]
theorem Sta.of_exa {args : Array Value} {s : State} {C n d K : String} (h : (Jvm.Cond.exactly (.static C n d) K).value args s none s [] = some true) (hi : (Jvm.Cond.initializedFor C n d).before args s = true ∨ ((Jvm.Cond.initialized C).before args s = true ∧ (Jvm.Cond.laysStatic C n d).before args s = true)) :
    ∃ a, (Term.static C n d).eval args s none [] s = some (.ref a) ∧ Sta s s.heap C n d (.ref a) ∧ Exa s s.heap a K := by
  obtain ⟨a, e⟩ := exa_v h
  exact ⟨a, e, Sta.start e hi, Exa.start e h⟩
theorem Fld.of_eq {args : Array Value} {s : State} {t : Term} {a : Addr} {C n d : String} {k : Int32} (e : t.eval args s none [] s = some (.ref a)) (h : (Jvm.Cond.eq (.field t C n d) (.int k)).value args s none s [] = some true) : Fld s s.heap a C n d (.int k) := by
  have q := eqInt_v h
  rw [fld_at e] at q
  exact Fld.start q
theorem Ari.of_start {s : State} {a : Addr} {c : Cell} {ty : FieldType} (hf : Fit s) (A : Arr s s.heap a c ty) (ht : ty = .int ∨ ty = .boolean ∨ ty = .byte ∨ ty = .char ∨ ty = .short) (hsz : c.slots.size < 2147483648) :
    ∃ g : Nat → Int32, Ari s s.heap a ty c.slots.size g ∧ ∀ i x, c.slots[i]? = some (.int x) → g i = x := by
  have key : ∀ i, i < c.slots.size → ∃ x, c.slots[i]? = some (.int x) ∧ fits ty (.int x) = true := by
    intro i hi
    have e1 : i.toInt32.toInt = (i : Int) := len_toInt (show i < 2 ^ 31 by omega)
    have e : i.toInt32.toNatClampNeg = i := by simp only [Int32.toNatClampNeg, e1]; omega
    obtain ⟨v, h1, h2⟩ := elem_fit (j := i.toInt32) hf A (idx_in hi (show c.slots.size < 2 ^ 31 by omega))
    obtain ⟨x, rfl⟩ := fit_I h2 ht
    rw [e] at h1
    exact ⟨x, h1, h2⟩
  refine ⟨fun i => match c.slots[i]? with | some (.int x) => x | _ => 0, ⟨c, A, rfl, hsz, fun i hi => ?_, fun i hi => ?_⟩, fun i x h => by simp only [h]⟩
  · obtain ⟨x, h1, -⟩ := key i hi; simp only [h1]
  · obtain ⟨x, h1, h2⟩ := key i hi; simp only [h1]; exact h2
theorem len_small {args : Array Value} {first s : State} {o : Option Outcome} {idx : List Nat} {t : Term} {v : Value} {a : Addr} {c : Cell} (h : (Term.length t).eval args first o idx s = some v) (ht : t.eval args first o idx s = some (.ref a)) (ha : s.arrayAt? a = some c) : c.slots.size < 2 ^ 31 := by
  simp only [Term.eval, ht, ha, Option.bind_eq_bind, Option.bind_some] at h
  split at h
  · assumption
  · cases h
/-- an array that a static holds, pinned by a case's words -/
theorem Ari.of_static {s : State} {args : Array Value} {C n d : String} {ty : FieldType} {N : Int32} {k : Nat} (hf : Fit s) (hA : (Jvm.Cond.arrayOf (.static C n d) ty).value args s none s [] = some true) (hL : (Jvm.Cond.eq (.length (.static C n d)) (.int N)).value args s none s [] = some true)
    (ht : ty = .int ∨ ty = .boolean ∨ ty = .byte ∨ ty = .char ∨ ty = .short) (hi : (Jvm.Cond.initializedFor C n d).before args s = true ∨ ((Jvm.Cond.initialized C).before args s = true ∧ (Jvm.Cond.laysStatic C n d).before args s = true)) (hN : N.toInt = (k : Int)) :
    ∃ (a : Addr) (g : Nat → Int32), Sta s s.heap C n d (.ref a) ∧ Ari s s.heap a ty k g ∧
      (∀ (j x : Int32) (i : Nat), (Jvm.Cond.eq (.elem (.static C n d) (.int j)) (.int x)).value args s none s [] = some true → j.toInt = (i : Int) → g i = x) ∧
      (∀ c : Jvm.Cond, (Jvm.Cond.all (.static C n d) c).value args s none s [] = some true → ∀ i, i < k → c.value args s none s [i] = some true) ∧
      (∀ (i : Nat) (x : Int32), i < k → (Jvm.Cond.eq (.elem (.static C n d) (.index 0)) (.int x)).value args s none s [i] = some true → g i = x) := by
  obtain ⟨a, e⟩ := arr_v hA
  obtain ⟨c, A⟩ := Arr.start e hA
  have eL := eqInt_v hL
  have hat : s.arrayAt? a = some c := A.fin (Vm.Alike.refl _)
  have hsz : c.slots.size < 2 ^ 31 := len_small eL e hat
  obtain ⟨a', c', q1, q2, q3⟩ := Term.length_spec eL
  cases e.symm.trans q1
  cases hat.symm.trans q2
  have hk : c.slots.size = k := by
    have z := congrArg Int32.toInt (Value.int.inj q3)
    rw [len_toInt hsz] at z
    omega
  obtain ⟨g, G, hg⟩ := Ari.of_start hf A ht hsz
  rw [hk] at G
  refine ⟨a, g, Sta.start e hi, G, fun j x i h hj => ?_, fun c0 h i hi => Cond.all_elim e hat h i (by omega), fun i x hi h => ?_⟩
  · obtain ⟨h1, h2⟩ := elem_in (eqInt_v h) e (show (Term.int j).eval args s none [] s = some (.int j) from rfl) A.1
    have ej : j.toNatClampNeg = i := by simp only [Int32.toNatClampNeg, hj]; omega
    rw [ej] at h2
    exact hg i x h2
  · have e2 : (Term.static C n d).eval args s none [i] s = some (.ref a) := e
    obtain ⟨h1, h2⟩ := elem_in (eqInt_v h) e2 (show (Term.index 0).eval args s none [i] s = some (.int i.toInt32) from rfl) A.1
    have e1 : i.toInt32.toInt = (i : Int) := len_toInt (show i < 2 ^ 31 by omega)
    have ej : i.toInt32.toNatClampNeg = i := by simp only [Int32.toNatClampNeg, e1]; omega
    rw [ej] at h2
    exact hg i x h2
theorem idx_lt {args : Array Value} {s : State} {i : Nat} {lo : Int32} (hi : i < 2147483648) : (Jvm.Cond.lt (.index 0) (.int lo)).value args s none s [i] = some (decide ((i : Int) < lo.toInt)) := by
  have e1 : i.toInt32.toInt = (i : Int) := len_toInt (show i < 2 ^ 31 by omega)
  rw [Cond.lt_ints (x := i.toInt32) (y := lo) rfl rfl, Option.some.injEq, decide_eq_decide, Int32.lt_iff_toInt_lt, e1]
theorem idx_le {args : Array Value} {s : State} {i : Nat} {hi : Int32} (h : i < 2147483648) : (Jvm.Cond.le (.int hi) (.index 0)).value args s none s [i] = some (decide (hi.toInt ≤ (i : Int))) := by
  have e1 : i.toInt32.toInt = (i : Int) := len_toInt (show i < 2 ^ 31 by omega)
  rw [Cond.le_ints (x := hi) (y := i.toInt32) rfl rfl, Option.some.injEq, decide_eq_decide, Int32.le_iff_toInt_le, e1]
theorem or_v {args : Array Value} {first s : State} {o : Option Outcome} {idx : List Nat} {G X : Jvm.Cond} {P : Prop} [Decidable P] (h : (Jvm.Cond.or G X).value args first o s idx = some true) (h1 : G.value args first o s idx = some (decide P)) : P ∨ X.value args first o s idx = some true := by
  by_cases p : P
  · exact Or.inl p
  · rw [Cond.or_of_right (nay h1 p)] at h; exact Or.inr h
end Jvm.WK
namespace Jvm.Pilot.@@N@@
open Jvm Jvm.ClassFile Sem Op Lib Jvm.Free Jvm.Stand Jvm.LawKit Jvm.RoadKit Bundle Jvm.WK Jvm.Pilot.@@N@@.Jvm.D
abbrev TC (p : Int) : Prop := (97 ≤ p ∧ p ≤ 122) ∨ (65 ≤ p ∧ p ≤ 90) ∨ (48 ≤ p ∧ p ≤ 57) ∨ p = 33 ∨ p = 35 ∨ p = 36 ∨ p = 37 ∨ p = 38 ∨ p = 39 ∨ p = 42 ∨ p = 43 ∨ p = 45 ∨ p = 46 ∨ p = 94 ∨ p = 95 ∨ p = 96 ∨ p = 124 ∨ p = 126
theorem ch (x : Int32) : 0 ≤ (x.toUInt32.toUInt16.toUInt32.toInt32).toInt := (c_i2c x).2.1
theorem d_prog_24_method_6_0 : decode prog_24_method_6_code 0 = .ok (.iload_n 0, 1) := by decide +kernel
theorem d_prog_24_method_6_1 : decode prog_24_method_6_code 1 = .ok (.getstatic 85, 3) := by decide +kernel
theorem wd4 {Z : State} {a0 : Array Value} (hw : ∀ d ∈ tables_1, d.before a0 Z = true) : (Jvm.Cond.fieldLink "com/example/cordon/cordon/http/HttpHead" (85 : Nat) "com/example/cordon/cordon/http/HttpHead" "TOKEN_CHARS" "[Z").before a0 Z = true := hw _ (List.mem_of_getElem? (i := 4) rfl)
theorem d_prog_24_method_6_4 : decode prog_24_method_6_code 4 = .ok (.arraylength, 1) := by decide +kernel
theorem d_prog_24_method_6_5 : decode prog_24_method_6_code 5 = .ok (.if_icmp .ge 15, 3) := by decide +kernel
theorem d_prog_24_method_6_20 : decode prog_24_method_6_code 20 = .ok (.iconst 0, 1) := by decide +kernel
theorem d_prog_24_method_6_21 : decode prog_24_method_6_code 21 = .ok (.ireturn, 1) := by decide +kernel
theorem d_prog_24_method_6_8 : decode prog_24_method_6_code 8 = .ok (.getstatic 85, 3) := by decide +kernel
theorem d_prog_24_method_6_11 : decode prog_24_method_6_code 11 = .ok (.iload_n 0, 1) := by decide +kernel
theorem d_prog_24_method_6_12 : decode prog_24_method_6_code 12 = .ok (.baload, 1) := by decide +kernel
theorem d_prog_24_method_6_13 : decode prog_24_method_6_code 13 = .ok (.ifCond .eq 7, 3) := by decide +kernel
theorem d_prog_24_method_6_16 : decode prog_24_method_6_code 16 = .ok (.iconst 1, 1) := by decide +kernel
theorem d_prog_24_method_6_17 : decode prog_24_method_6_code 17 = .ok (.goto 4, 3) := by decide +kernel
theorem pn_0 : plainName "com/example/cordon/cordon/http/HttpHead" = true := by first | (simp [plainName, overriddenIn]; done) | decide +kernel
set_option maxRecDepth 65536 in
set_option maxHeartbeats 40000000 in
theorem m_itc {Z : State} {a0 : Array Value} (hw : ∀ d ∈ tables_1, d.before a0 Z = true) (p : Int32) (h0 : Heap) (n0 : Nat) (aT : Addr) (g : Nat → Int32) (S_T : Sta Z h0 "com/example/cordon/cordon/http/HttpHead" "TOKEN_CHARS" "[Z" (.ref aT)) (A_T : Ari Z h0 aT .boolean 128 g) (hp : 0 ≤ p.toInt) : ∀ l, Does l Z (⟨"com/example/cordon/cordon/http/HttpHead", "isTokenChar", "(C)Z"⟩ : MethodName) prog_24_method_6_code 1 (some .boolean) ({ frames := 0, cells := 0, slots := 0, locals := 0 } : Room) n0 #[(.int p)] h0 (fun v h => v = some (.int (b2i (decide (p.toInt < (128 : Int32).toInt ∧ ¬ g p.toInt.toNat = 0)))) ∧ h = h0) := by
  intro l
  refine Does.of_wp (plainFor_of_name pn_0) (Ls := #[.val (.int p)]) (fun m => by first | (simp [entryFrame, mkF, argsToLocals, Value.category]; done) | rfl) ?_
  intro C
  refine WP.iloadN (pc' := 1) d_prog_24_method_6_0 rfl rfl ?_
  refine WP.getS (pc' := 4) d_prog_24_method_6_1 rfl (host := "") (Or.inl (wd4 hw)) Via.refl (S_T) ?_
  refine WP.arraylengthI (z := (128 : Int32)) (pc' := 5) d_prog_24_method_6_4 rfl A_T rfl ?_
  refine WP.icmp_ge (pc1 := 20) (pc2 := 8) d_prog_24_method_6_5 (by decide) (by decide) rfl ?_ ?_
  · intro hc5
    refine WP.iconst (pc' := 21) d_prog_24_method_6_20 rfl (z := 0) rfl ?_
    refine WP.nret (t := .boolean) d_prog_24_method_6_21 rfl (by simp) rfl (by decide) (by decide) ⟨b2i_f fun z => hc5 (by rw [Int32.lt_iff_toInt_lt]; exact z.1), rfl⟩
  · intro hc5
    refine WP.getS (pc' := 11) d_prog_24_method_6_8 rfl (host := "") (Or.inl (wd4 hw)) Via.refl (S_T) ?_
    refine WP.iloadN (pc' := 12) d_prog_24_method_6_11 rfl rfl ?_
    have lt1 : p.toInt.toNat < 128 := by rw [Int32.lt_iff_toInt_lt] at hc5; have : (128 : Int32).toInt = 128 := rfl; omega
    refine WP.baloadZI (p.toInt.toNat) (pc' := 13) d_prog_24_method_6_12 rfl A_T (by omega) lt1 rfl ?_
    refine WP.ifc_eq (pc1 := 20) (pc2 := 16) d_prog_24_method_6_13 (by decide) (by decide) rfl ?_ ?_
    · intro hc13
      refine WP.iconst (pc' := 21) d_prog_24_method_6_20 rfl (z := 0) rfl ?_
      refine WP.nret (t := .boolean) d_prog_24_method_6_21 rfl (by simp) rfl (by decide) (by decide) ⟨b2i_f fun z => z.2 hc13, rfl⟩
    · intro hc13
      refine WP.iconst (pc' := 17) d_prog_24_method_6_16 rfl (z := 1) rfl ?_
      refine WP.goto (pc' := 21) d_prog_24_method_6_17 (by decide) (by decide) ?_
      refine WP.nret (t := .boolean) d_prog_24_method_6_21 rfl (by simp) rfl (by decide) (by decide) ⟨b2i_t ⟨by rw [Int32.lt_iff_toInt_lt] at hc5; exact hc5, hc13⟩, rfl⟩
theorem d_method_2_0 : decode method_2_code 0 = .ok (.iload_n 0, 1) := by decide +kernel
theorem d_method_2_1 : decode method_2_code 1 = .ok (.bipush 97, 2) := by decide +kernel
theorem d_method_2_3 : decode method_2_code 3 = .ok (.if_icmp .lt 11, 3) := by decide +kernel
theorem d_method_2_14 : decode method_2_code 14 = .ok (.iload_n 0, 1) := by decide +kernel
theorem d_method_2_15 : decode method_2_code 15 = .ok (.bipush 65, 2) := by decide +kernel
theorem d_method_2_17 : decode method_2_code 17 = .ok (.if_icmp .lt 11, 3) := by decide +kernel
theorem d_method_2_28 : decode method_2_code 28 = .ok (.iload_n 0, 1) := by decide +kernel
theorem d_method_2_29 : decode method_2_code 29 = .ok (.bipush 48, 2) := by decide +kernel
theorem d_method_2_31 : decode method_2_code 31 = .ok (.if_icmp .lt 11, 3) := by decide +kernel
theorem d_method_2_42 : decode method_2_code 42 = .ok (.iload_n 0, 1) := by decide +kernel
theorem d_method_2_43 : decode method_2_code 43 = .ok (.bipush 33, 2) := by decide +kernel
theorem d_method_2_45 : decode method_2_code 45 = .ok (.if_icmp .eq 87, 3) := by decide +kernel
theorem d_method_2_132 : decode method_2_code 132 = .ok (.iconst 1, 1) := by decide +kernel
theorem d_method_2_133 : decode method_2_code 133 = .ok (.goto 4, 3) := by decide +kernel
theorem d_method_2_137 : decode method_2_code 137 = .ok (.ireturn, 1) := by decide +kernel
theorem d_method_2_48 : decode method_2_code 48 = .ok (.iload_n 0, 1) := by decide +kernel
theorem d_method_2_49 : decode method_2_code 49 = .ok (.bipush 35, 2) := by decide +kernel
theorem d_method_2_51 : decode method_2_code 51 = .ok (.if_icmp .eq 81, 3) := by decide +kernel
theorem d_method_2_54 : decode method_2_code 54 = .ok (.iload_n 0, 1) := by decide +kernel
theorem d_method_2_55 : decode method_2_code 55 = .ok (.bipush 36, 2) := by decide +kernel
theorem d_method_2_57 : decode method_2_code 57 = .ok (.if_icmp .eq 75, 3) := by decide +kernel
theorem d_method_2_60 : decode method_2_code 60 = .ok (.iload_n 0, 1) := by decide +kernel
theorem d_method_2_61 : decode method_2_code 61 = .ok (.bipush 37, 2) := by decide +kernel
theorem d_method_2_63 : decode method_2_code 63 = .ok (.if_icmp .eq 69, 3) := by decide +kernel
theorem d_method_2_66 : decode method_2_code 66 = .ok (.iload_n 0, 1) := by decide +kernel
theorem d_method_2_67 : decode method_2_code 67 = .ok (.bipush 38, 2) := by decide +kernel
theorem d_method_2_69 : decode method_2_code 69 = .ok (.if_icmp .eq 63, 3) := by decide +kernel
theorem d_method_2_72 : decode method_2_code 72 = .ok (.iload_n 0, 1) := by decide +kernel
theorem d_method_2_73 : decode method_2_code 73 = .ok (.bipush 39, 2) := by decide +kernel
theorem d_method_2_75 : decode method_2_code 75 = .ok (.if_icmp .eq 57, 3) := by decide +kernel
theorem d_method_2_78 : decode method_2_code 78 = .ok (.iload_n 0, 1) := by decide +kernel
theorem d_method_2_79 : decode method_2_code 79 = .ok (.bipush 42, 2) := by decide +kernel
theorem d_method_2_81 : decode method_2_code 81 = .ok (.if_icmp .eq 51, 3) := by decide +kernel
theorem d_method_2_84 : decode method_2_code 84 = .ok (.iload_n 0, 1) := by decide +kernel
theorem d_method_2_85 : decode method_2_code 85 = .ok (.bipush 43, 2) := by decide +kernel
theorem d_method_2_87 : decode method_2_code 87 = .ok (.if_icmp .eq 45, 3) := by decide +kernel
theorem d_method_2_90 : decode method_2_code 90 = .ok (.iload_n 0, 1) := by decide +kernel
theorem d_method_2_91 : decode method_2_code 91 = .ok (.bipush 45, 2) := by decide +kernel
theorem d_method_2_93 : decode method_2_code 93 = .ok (.if_icmp .eq 39, 3) := by decide +kernel
theorem d_method_2_96 : decode method_2_code 96 = .ok (.iload_n 0, 1) := by decide +kernel
theorem d_method_2_97 : decode method_2_code 97 = .ok (.bipush 46, 2) := by decide +kernel
theorem d_method_2_99 : decode method_2_code 99 = .ok (.if_icmp .eq 33, 3) := by decide +kernel
theorem d_method_2_102 : decode method_2_code 102 = .ok (.iload_n 0, 1) := by decide +kernel
theorem d_method_2_103 : decode method_2_code 103 = .ok (.bipush 94, 2) := by decide +kernel
theorem d_method_2_105 : decode method_2_code 105 = .ok (.if_icmp .eq 27, 3) := by decide +kernel
theorem d_method_2_108 : decode method_2_code 108 = .ok (.iload_n 0, 1) := by decide +kernel
theorem d_method_2_109 : decode method_2_code 109 = .ok (.bipush 95, 2) := by decide +kernel
theorem d_method_2_111 : decode method_2_code 111 = .ok (.if_icmp .eq 21, 3) := by decide +kernel
theorem d_method_2_114 : decode method_2_code 114 = .ok (.iload_n 0, 1) := by decide +kernel
theorem d_method_2_115 : decode method_2_code 115 = .ok (.bipush 96, 2) := by decide +kernel
theorem d_method_2_117 : decode method_2_code 117 = .ok (.if_icmp .eq 15, 3) := by decide +kernel
theorem d_method_2_120 : decode method_2_code 120 = .ok (.iload_n 0, 1) := by decide +kernel
theorem d_method_2_121 : decode method_2_code 121 = .ok (.bipush 124, 2) := by decide +kernel
theorem d_method_2_123 : decode method_2_code 123 = .ok (.if_icmp .eq 9, 3) := by decide +kernel
theorem d_method_2_126 : decode method_2_code 126 = .ok (.iload_n 0, 1) := by decide +kernel
theorem d_method_2_127 : decode method_2_code 127 = .ok (.bipush 126, 2) := by decide +kernel
theorem d_method_2_129 : decode method_2_code 129 = .ok (.if_icmp .ne 7, 3) := by decide +kernel
theorem d_method_2_136 : decode method_2_code 136 = .ok (.iconst 0, 1) := by decide +kernel
theorem d_method_2_34 : decode method_2_code 34 = .ok (.iload_n 0, 1) := by decide +kernel
theorem d_method_2_35 : decode method_2_code 35 = .ok (.bipush 57, 2) := by decide +kernel
theorem d_method_2_37 : decode method_2_code 37 = .ok (.if_icmp .gt 5, 3) := by decide +kernel
theorem d_method_2_40 : decode method_2_code 40 = .ok (.iconst 1, 1) := by decide +kernel
theorem d_method_2_41 : decode method_2_code 41 = .ok (.ireturn, 1) := by decide +kernel
theorem d_method_2_20 : decode method_2_code 20 = .ok (.iload_n 0, 1) := by decide +kernel
theorem d_method_2_21 : decode method_2_code 21 = .ok (.bipush 90, 2) := by decide +kernel
theorem d_method_2_23 : decode method_2_code 23 = .ok (.if_icmp .gt 5, 3) := by decide +kernel
theorem d_method_2_26 : decode method_2_code 26 = .ok (.iconst 1, 1) := by decide +kernel
theorem d_method_2_27 : decode method_2_code 27 = .ok (.ireturn, 1) := by decide +kernel
theorem d_method_2_6 : decode method_2_code 6 = .ok (.iload_n 0, 1) := by decide +kernel
theorem d_method_2_7 : decode method_2_code 7 = .ok (.bipush 122, 2) := by decide +kernel
theorem d_method_2_9 : decode method_2_code 9 = .ok (.if_icmp .gt 5, 3) := by decide +kernel
theorem d_method_2_12 : decode method_2_code 12 = .ok (.iconst 1, 1) := by decide +kernel
theorem d_method_2_13 : decode method_2_code 13 = .ok (.ireturn, 1) := by decide +kernel
theorem pn_1 : plainName "com/example/cordon/cordon/http/HttpHeadIsTokenCharPinLaw" = true := by first | (simp [plainName, overriddenIn]; done) | decide +kernel
set_option maxRecDepth 65536 in
set_option maxHeartbeats 40000000 in
theorem m_tch {Z : State} {a0 : Array Value} (hw : ∀ d ∈ tables_1, d.before a0 Z = true) (p : Int32) (h0 : Heap) (n0 : Nat)  : ∀ l, Does l Z (⟨"com/example/cordon/cordon/http/HttpHeadIsTokenCharPinLaw", "isTchar", "(C)Z"⟩ : MethodName) method_2_code 1 (some .boolean) ({ frames := 0, cells := 0, slots := 0, locals := 0 } : Room) n0 #[(.int p)] h0 (fun v h => v = some (.int (b2i (decide (TC p.toInt)))) ∧ h = h0) := by
  intro l
  refine Does.of_wp (plainFor_of_name pn_1) (Ls := #[.val (.int p)]) (fun m => by first | (simp [entryFrame, mkF, argsToLocals, Value.category]; done) | rfl) ?_
  intro C
  refine WP.iloadN (pc' := 1) d_method_2_0 rfl rfl ?_
  refine WP.bipush (pc' := 3) d_method_2_1 rfl (z := 97) rfl ?_
  refine WP.icmp_lt (pc1 := 14) (pc2 := 6) d_method_2_3 (by decide) (by decide) rfl ?_ ?_
  · intro hc3
    refine WP.iloadN (pc' := 15) d_method_2_14 rfl rfl ?_
    refine WP.bipush (pc' := 17) d_method_2_15 rfl (z := 65) rfl ?_
    refine WP.icmp_lt (pc1 := 28) (pc2 := 20) d_method_2_17 (by decide) (by decide) rfl ?_ ?_
    · intro hc17
      refine WP.iloadN (pc' := 29) d_method_2_28 rfl rfl ?_
      refine WP.bipush (pc' := 31) d_method_2_29 rfl (z := 48) rfl ?_
      refine WP.icmp_lt (pc1 := 42) (pc2 := 34) d_method_2_31 (by decide) (by decide) rfl ?_ ?_
      · intro hc31
        refine WP.iloadN (pc' := 43) d_method_2_42 rfl rfl ?_
        refine WP.bipush (pc' := 45) d_method_2_43 rfl (z := 33) rfl ?_
        refine WP.icmp_eq (pc1 := 132) (pc2 := 48) d_method_2_45 (by decide) (by decide) rfl ?_ ?_
        · intro hc45
          refine WP.iconst (pc' := 133) d_method_2_132 rfl (z := 1) rfl ?_
          refine WP.goto (pc' := 137) d_method_2_133 (by decide) (by decide) ?_
          refine WP.nret (t := .boolean) d_method_2_137 rfl (by simp) rfl (by decide) (by decide) ⟨b2i_t (by simp only [Int32.lt_iff_toInt_lt, Int32.le_iff_toInt_le, ← Int32.toInt_inj, Int32.reduceToInt, TC] at hc3 hc17 hc31 hc45 ⊢; omega), rfl⟩
        · intro hc45
          refine WP.iloadN (pc' := 49) d_method_2_48 rfl rfl ?_
          refine WP.bipush (pc' := 51) d_method_2_49 rfl (z := 35) rfl ?_
          refine WP.icmp_eq (pc1 := 132) (pc2 := 54) d_method_2_51 (by decide) (by decide) rfl ?_ ?_
          · intro hc51
            refine WP.iconst (pc' := 133) d_method_2_132 rfl (z := 1) rfl ?_
            refine WP.goto (pc' := 137) d_method_2_133 (by decide) (by decide) ?_
            refine WP.nret (t := .boolean) d_method_2_137 rfl (by simp) rfl (by decide) (by decide) ⟨b2i_t (by simp only [Int32.lt_iff_toInt_lt, Int32.le_iff_toInt_le, ← Int32.toInt_inj, Int32.reduceToInt, TC] at hc3 hc17 hc31 hc45 hc51 ⊢; omega), rfl⟩
          · intro hc51
            refine WP.iloadN (pc' := 55) d_method_2_54 rfl rfl ?_
            refine WP.bipush (pc' := 57) d_method_2_55 rfl (z := 36) rfl ?_
            refine WP.icmp_eq (pc1 := 132) (pc2 := 60) d_method_2_57 (by decide) (by decide) rfl ?_ ?_
            · intro hc57
              refine WP.iconst (pc' := 133) d_method_2_132 rfl (z := 1) rfl ?_
              refine WP.goto (pc' := 137) d_method_2_133 (by decide) (by decide) ?_
              refine WP.nret (t := .boolean) d_method_2_137 rfl (by simp) rfl (by decide) (by decide) ⟨b2i_t (by simp only [Int32.lt_iff_toInt_lt, Int32.le_iff_toInt_le, ← Int32.toInt_inj, Int32.reduceToInt, TC] at hc3 hc17 hc31 hc45 hc51 hc57 ⊢; omega), rfl⟩
            · intro hc57
              refine WP.iloadN (pc' := 61) d_method_2_60 rfl rfl ?_
              refine WP.bipush (pc' := 63) d_method_2_61 rfl (z := 37) rfl ?_
              refine WP.icmp_eq (pc1 := 132) (pc2 := 66) d_method_2_63 (by decide) (by decide) rfl ?_ ?_
              · intro hc63
                refine WP.iconst (pc' := 133) d_method_2_132 rfl (z := 1) rfl ?_
                refine WP.goto (pc' := 137) d_method_2_133 (by decide) (by decide) ?_
                refine WP.nret (t := .boolean) d_method_2_137 rfl (by simp) rfl (by decide) (by decide) ⟨b2i_t (by simp only [Int32.lt_iff_toInt_lt, Int32.le_iff_toInt_le, ← Int32.toInt_inj, Int32.reduceToInt, TC] at hc3 hc17 hc31 hc45 hc51 hc57 hc63 ⊢; omega), rfl⟩
              · intro hc63
                refine WP.iloadN (pc' := 67) d_method_2_66 rfl rfl ?_
                refine WP.bipush (pc' := 69) d_method_2_67 rfl (z := 38) rfl ?_
                refine WP.icmp_eq (pc1 := 132) (pc2 := 72) d_method_2_69 (by decide) (by decide) rfl ?_ ?_
                · intro hc69
                  refine WP.iconst (pc' := 133) d_method_2_132 rfl (z := 1) rfl ?_
                  refine WP.goto (pc' := 137) d_method_2_133 (by decide) (by decide) ?_
                  refine WP.nret (t := .boolean) d_method_2_137 rfl (by simp) rfl (by decide) (by decide) ⟨b2i_t (by simp only [Int32.lt_iff_toInt_lt, Int32.le_iff_toInt_le, ← Int32.toInt_inj, Int32.reduceToInt, TC] at hc3 hc17 hc31 hc45 hc51 hc57 hc63 hc69 ⊢; omega), rfl⟩
                · intro hc69
                  refine WP.iloadN (pc' := 73) d_method_2_72 rfl rfl ?_
                  refine WP.bipush (pc' := 75) d_method_2_73 rfl (z := 39) rfl ?_
                  refine WP.icmp_eq (pc1 := 132) (pc2 := 78) d_method_2_75 (by decide) (by decide) rfl ?_ ?_
                  · intro hc75
                    refine WP.iconst (pc' := 133) d_method_2_132 rfl (z := 1) rfl ?_
                    refine WP.goto (pc' := 137) d_method_2_133 (by decide) (by decide) ?_
                    refine WP.nret (t := .boolean) d_method_2_137 rfl (by simp) rfl (by decide) (by decide) ⟨b2i_t (by simp only [Int32.lt_iff_toInt_lt, Int32.le_iff_toInt_le, ← Int32.toInt_inj, Int32.reduceToInt, TC] at hc3 hc17 hc31 hc45 hc51 hc57 hc63 hc69 hc75 ⊢; omega), rfl⟩
                  · intro hc75
                    refine WP.iloadN (pc' := 79) d_method_2_78 rfl rfl ?_
                    refine WP.bipush (pc' := 81) d_method_2_79 rfl (z := 42) rfl ?_
                    refine WP.icmp_eq (pc1 := 132) (pc2 := 84) d_method_2_81 (by decide) (by decide) rfl ?_ ?_
                    · intro hc81
                      refine WP.iconst (pc' := 133) d_method_2_132 rfl (z := 1) rfl ?_
                      refine WP.goto (pc' := 137) d_method_2_133 (by decide) (by decide) ?_
                      refine WP.nret (t := .boolean) d_method_2_137 rfl (by simp) rfl (by decide) (by decide) ⟨b2i_t (by simp only [Int32.lt_iff_toInt_lt, Int32.le_iff_toInt_le, ← Int32.toInt_inj, Int32.reduceToInt, TC] at hc3 hc17 hc31 hc45 hc51 hc57 hc63 hc69 hc75 hc81 ⊢; omega), rfl⟩
                    · intro hc81
                      refine WP.iloadN (pc' := 85) d_method_2_84 rfl rfl ?_
                      refine WP.bipush (pc' := 87) d_method_2_85 rfl (z := 43) rfl ?_
                      refine WP.icmp_eq (pc1 := 132) (pc2 := 90) d_method_2_87 (by decide) (by decide) rfl ?_ ?_
                      · intro hc87
                        refine WP.iconst (pc' := 133) d_method_2_132 rfl (z := 1) rfl ?_
                        refine WP.goto (pc' := 137) d_method_2_133 (by decide) (by decide) ?_
                        refine WP.nret (t := .boolean) d_method_2_137 rfl (by simp) rfl (by decide) (by decide) ⟨b2i_t (by simp only [Int32.lt_iff_toInt_lt, Int32.le_iff_toInt_le, ← Int32.toInt_inj, Int32.reduceToInt, TC] at hc3 hc17 hc31 hc45 hc51 hc57 hc63 hc69 hc75 hc81 hc87 ⊢; omega), rfl⟩
                      · intro hc87
                        refine WP.iloadN (pc' := 91) d_method_2_90 rfl rfl ?_
                        refine WP.bipush (pc' := 93) d_method_2_91 rfl (z := 45) rfl ?_
                        refine WP.icmp_eq (pc1 := 132) (pc2 := 96) d_method_2_93 (by decide) (by decide) rfl ?_ ?_
                        · intro hc93
                          refine WP.iconst (pc' := 133) d_method_2_132 rfl (z := 1) rfl ?_
                          refine WP.goto (pc' := 137) d_method_2_133 (by decide) (by decide) ?_
                          refine WP.nret (t := .boolean) d_method_2_137 rfl (by simp) rfl (by decide) (by decide) ⟨b2i_t (by simp only [Int32.lt_iff_toInt_lt, Int32.le_iff_toInt_le, ← Int32.toInt_inj, Int32.reduceToInt, TC] at hc3 hc17 hc31 hc45 hc51 hc57 hc63 hc69 hc75 hc81 hc87 hc93 ⊢; omega), rfl⟩
                        · intro hc93
                          refine WP.iloadN (pc' := 97) d_method_2_96 rfl rfl ?_
                          refine WP.bipush (pc' := 99) d_method_2_97 rfl (z := 46) rfl ?_
                          refine WP.icmp_eq (pc1 := 132) (pc2 := 102) d_method_2_99 (by decide) (by decide) rfl ?_ ?_
                          · intro hc99
                            refine WP.iconst (pc' := 133) d_method_2_132 rfl (z := 1) rfl ?_
                            refine WP.goto (pc' := 137) d_method_2_133 (by decide) (by decide) ?_
                            refine WP.nret (t := .boolean) d_method_2_137 rfl (by simp) rfl (by decide) (by decide) ⟨b2i_t (by simp only [Int32.lt_iff_toInt_lt, Int32.le_iff_toInt_le, ← Int32.toInt_inj, Int32.reduceToInt, TC] at hc3 hc17 hc31 hc45 hc51 hc57 hc63 hc69 hc75 hc81 hc87 hc93 hc99 ⊢; omega), rfl⟩
                          · intro hc99
                            refine WP.iloadN (pc' := 103) d_method_2_102 rfl rfl ?_
                            refine WP.bipush (pc' := 105) d_method_2_103 rfl (z := 94) rfl ?_
                            refine WP.icmp_eq (pc1 := 132) (pc2 := 108) d_method_2_105 (by decide) (by decide) rfl ?_ ?_
                            · intro hc105
                              refine WP.iconst (pc' := 133) d_method_2_132 rfl (z := 1) rfl ?_
                              refine WP.goto (pc' := 137) d_method_2_133 (by decide) (by decide) ?_
                              refine WP.nret (t := .boolean) d_method_2_137 rfl (by simp) rfl (by decide) (by decide) ⟨b2i_t (by simp only [Int32.lt_iff_toInt_lt, Int32.le_iff_toInt_le, ← Int32.toInt_inj, Int32.reduceToInt, TC] at hc3 hc17 hc31 hc45 hc51 hc57 hc63 hc69 hc75 hc81 hc87 hc93 hc99 hc105 ⊢; omega), rfl⟩
                            · intro hc105
                              refine WP.iloadN (pc' := 109) d_method_2_108 rfl rfl ?_
                              refine WP.bipush (pc' := 111) d_method_2_109 rfl (z := 95) rfl ?_
                              refine WP.icmp_eq (pc1 := 132) (pc2 := 114) d_method_2_111 (by decide) (by decide) rfl ?_ ?_
                              · intro hc111
                                refine WP.iconst (pc' := 133) d_method_2_132 rfl (z := 1) rfl ?_
                                refine WP.goto (pc' := 137) d_method_2_133 (by decide) (by decide) ?_
                                refine WP.nret (t := .boolean) d_method_2_137 rfl (by simp) rfl (by decide) (by decide) ⟨b2i_t (by simp only [Int32.lt_iff_toInt_lt, Int32.le_iff_toInt_le, ← Int32.toInt_inj, Int32.reduceToInt, TC] at hc3 hc17 hc31 hc45 hc51 hc57 hc63 hc69 hc75 hc81 hc87 hc93 hc99 hc105 hc111 ⊢; omega), rfl⟩
                              · intro hc111
                                refine WP.iloadN (pc' := 115) d_method_2_114 rfl rfl ?_
                                refine WP.bipush (pc' := 117) d_method_2_115 rfl (z := 96) rfl ?_
                                refine WP.icmp_eq (pc1 := 132) (pc2 := 120) d_method_2_117 (by decide) (by decide) rfl ?_ ?_
                                · intro hc117
                                  refine WP.iconst (pc' := 133) d_method_2_132 rfl (z := 1) rfl ?_
                                  refine WP.goto (pc' := 137) d_method_2_133 (by decide) (by decide) ?_
                                  refine WP.nret (t := .boolean) d_method_2_137 rfl (by simp) rfl (by decide) (by decide) ⟨b2i_t (by simp only [Int32.lt_iff_toInt_lt, Int32.le_iff_toInt_le, ← Int32.toInt_inj, Int32.reduceToInt, TC] at hc3 hc17 hc31 hc45 hc51 hc57 hc63 hc69 hc75 hc81 hc87 hc93 hc99 hc105 hc111 hc117 ⊢; omega), rfl⟩
                                · intro hc117
                                  refine WP.iloadN (pc' := 121) d_method_2_120 rfl rfl ?_
                                  refine WP.bipush (pc' := 123) d_method_2_121 rfl (z := 124) rfl ?_
                                  refine WP.icmp_eq (pc1 := 132) (pc2 := 126) d_method_2_123 (by decide) (by decide) rfl ?_ ?_
                                  · intro hc123
                                    refine WP.iconst (pc' := 133) d_method_2_132 rfl (z := 1) rfl ?_
                                    refine WP.goto (pc' := 137) d_method_2_133 (by decide) (by decide) ?_
                                    refine WP.nret (t := .boolean) d_method_2_137 rfl (by simp) rfl (by decide) (by decide) ⟨b2i_t (by simp only [Int32.lt_iff_toInt_lt, Int32.le_iff_toInt_le, ← Int32.toInt_inj, Int32.reduceToInt, TC] at hc3 hc17 hc31 hc45 hc51 hc57 hc63 hc69 hc75 hc81 hc87 hc93 hc99 hc105 hc111 hc117 hc123 ⊢; omega), rfl⟩
                                  · intro hc123
                                    refine WP.iloadN (pc' := 127) d_method_2_126 rfl rfl ?_
                                    refine WP.bipush (pc' := 129) d_method_2_127 rfl (z := 126) rfl ?_
                                    refine WP.icmp_ne (pc1 := 136) (pc2 := 132) d_method_2_129 (by decide) (by decide) rfl ?_ ?_
                                    · intro hc129
                                      refine WP.iconst (pc' := 137) d_method_2_136 rfl (z := 0) rfl ?_
                                      refine WP.nret (t := .boolean) d_method_2_137 rfl (by simp) rfl (by decide) (by decide) ⟨b2i_f (by simp only [Int32.lt_iff_toInt_lt, Int32.le_iff_toInt_le, ← Int32.toInt_inj, Int32.reduceToInt, TC] at hc3 hc17 hc31 hc45 hc51 hc57 hc63 hc69 hc75 hc81 hc87 hc93 hc99 hc105 hc111 hc117 hc123 hc129 ⊢; omega), rfl⟩
                                    · intro hc129
                                      refine WP.iconst (pc' := 133) d_method_2_132 rfl (z := 1) rfl ?_
                                      refine WP.goto (pc' := 137) d_method_2_133 (by decide) (by decide) ?_
                                      refine WP.nret (t := .boolean) d_method_2_137 rfl (by simp) rfl (by decide) (by decide) ⟨b2i_t (by simp only [Int32.lt_iff_toInt_lt, Int32.le_iff_toInt_le, ← Int32.toInt_inj, Int32.reduceToInt, TC] at hc3 hc17 hc31 hc45 hc51 hc57 hc63 hc69 hc75 hc81 hc87 hc93 hc99 hc105 hc111 hc117 hc123 hc129 ⊢; omega), rfl⟩
      · intro hc31
        refine WP.iloadN (pc' := 35) d_method_2_34 rfl rfl ?_
        refine WP.bipush (pc' := 37) d_method_2_35 rfl (z := 57) rfl ?_
        refine WP.icmp_gt (pc1 := 42) (pc2 := 40) d_method_2_37 (by decide) (by decide) rfl ?_ ?_
        · intro hc37
          refine WP.iloadN (pc' := 43) d_method_2_42 rfl rfl ?_
          refine WP.bipush (pc' := 45) d_method_2_43 rfl (z := 33) rfl ?_
          refine WP.icmp_eq (pc1 := 132) (pc2 := 48) d_method_2_45 (by decide) (by decide) rfl ?_ ?_
          · intro hc45
            refine WP.iconst (pc' := 133) d_method_2_132 rfl (z := 1) rfl ?_
            refine WP.goto (pc' := 137) d_method_2_133 (by decide) (by decide) ?_
            refine WP.nret (t := .boolean) d_method_2_137 rfl (by simp) rfl (by decide) (by decide) ⟨b2i_t (by simp only [Int32.lt_iff_toInt_lt, Int32.le_iff_toInt_le, ← Int32.toInt_inj, Int32.reduceToInt, TC] at hc3 hc17 hc31 hc37 hc45 ⊢; omega), rfl⟩
          · intro hc45
            refine WP.iloadN (pc' := 49) d_method_2_48 rfl rfl ?_
            refine WP.bipush (pc' := 51) d_method_2_49 rfl (z := 35) rfl ?_
            refine WP.icmp_eq (pc1 := 132) (pc2 := 54) d_method_2_51 (by decide) (by decide) rfl ?_ ?_
            · intro hc51
              refine WP.iconst (pc' := 133) d_method_2_132 rfl (z := 1) rfl ?_
              refine WP.goto (pc' := 137) d_method_2_133 (by decide) (by decide) ?_
              refine WP.nret (t := .boolean) d_method_2_137 rfl (by simp) rfl (by decide) (by decide) ⟨b2i_t (by simp only [Int32.lt_iff_toInt_lt, Int32.le_iff_toInt_le, ← Int32.toInt_inj, Int32.reduceToInt, TC] at hc3 hc17 hc31 hc37 hc45 hc51 ⊢; omega), rfl⟩
            · intro hc51
              refine WP.iloadN (pc' := 55) d_method_2_54 rfl rfl ?_
              refine WP.bipush (pc' := 57) d_method_2_55 rfl (z := 36) rfl ?_
              refine WP.icmp_eq (pc1 := 132) (pc2 := 60) d_method_2_57 (by decide) (by decide) rfl ?_ ?_
              · intro hc57
                refine WP.iconst (pc' := 133) d_method_2_132 rfl (z := 1) rfl ?_
                refine WP.goto (pc' := 137) d_method_2_133 (by decide) (by decide) ?_
                refine WP.nret (t := .boolean) d_method_2_137 rfl (by simp) rfl (by decide) (by decide) ⟨b2i_t (by simp only [Int32.lt_iff_toInt_lt, Int32.le_iff_toInt_le, ← Int32.toInt_inj, Int32.reduceToInt, TC] at hc3 hc17 hc31 hc37 hc45 hc51 hc57 ⊢; omega), rfl⟩
              · intro hc57
                refine WP.iloadN (pc' := 61) d_method_2_60 rfl rfl ?_
                refine WP.bipush (pc' := 63) d_method_2_61 rfl (z := 37) rfl ?_
                refine WP.icmp_eq (pc1 := 132) (pc2 := 66) d_method_2_63 (by decide) (by decide) rfl ?_ ?_
                · intro hc63
                  refine WP.iconst (pc' := 133) d_method_2_132 rfl (z := 1) rfl ?_
                  refine WP.goto (pc' := 137) d_method_2_133 (by decide) (by decide) ?_
                  refine WP.nret (t := .boolean) d_method_2_137 rfl (by simp) rfl (by decide) (by decide) ⟨b2i_t (by simp only [Int32.lt_iff_toInt_lt, Int32.le_iff_toInt_le, ← Int32.toInt_inj, Int32.reduceToInt, TC] at hc3 hc17 hc31 hc37 hc45 hc51 hc57 hc63 ⊢; omega), rfl⟩
                · intro hc63
                  refine WP.iloadN (pc' := 67) d_method_2_66 rfl rfl ?_
                  refine WP.bipush (pc' := 69) d_method_2_67 rfl (z := 38) rfl ?_
                  refine WP.icmp_eq (pc1 := 132) (pc2 := 72) d_method_2_69 (by decide) (by decide) rfl ?_ ?_
                  · intro hc69
                    refine WP.iconst (pc' := 133) d_method_2_132 rfl (z := 1) rfl ?_
                    refine WP.goto (pc' := 137) d_method_2_133 (by decide) (by decide) ?_
                    refine WP.nret (t := .boolean) d_method_2_137 rfl (by simp) rfl (by decide) (by decide) ⟨b2i_t (by simp only [Int32.lt_iff_toInt_lt, Int32.le_iff_toInt_le, ← Int32.toInt_inj, Int32.reduceToInt, TC] at hc3 hc17 hc31 hc37 hc45 hc51 hc57 hc63 hc69 ⊢; omega), rfl⟩
                  · intro hc69
                    refine WP.iloadN (pc' := 73) d_method_2_72 rfl rfl ?_
                    refine WP.bipush (pc' := 75) d_method_2_73 rfl (z := 39) rfl ?_
                    refine WP.icmp_eq (pc1 := 132) (pc2 := 78) d_method_2_75 (by decide) (by decide) rfl ?_ ?_
                    · intro hc75
                      refine WP.iconst (pc' := 133) d_method_2_132 rfl (z := 1) rfl ?_
                      refine WP.goto (pc' := 137) d_method_2_133 (by decide) (by decide) ?_
                      refine WP.nret (t := .boolean) d_method_2_137 rfl (by simp) rfl (by decide) (by decide) ⟨b2i_t (by simp only [Int32.lt_iff_toInt_lt, Int32.le_iff_toInt_le, ← Int32.toInt_inj, Int32.reduceToInt, TC] at hc3 hc17 hc31 hc37 hc45 hc51 hc57 hc63 hc69 hc75 ⊢; omega), rfl⟩
                    · intro hc75
                      refine WP.iloadN (pc' := 79) d_method_2_78 rfl rfl ?_
                      refine WP.bipush (pc' := 81) d_method_2_79 rfl (z := 42) rfl ?_
                      refine WP.icmp_eq (pc1 := 132) (pc2 := 84) d_method_2_81 (by decide) (by decide) rfl ?_ ?_
                      · intro hc81
                        refine WP.iconst (pc' := 133) d_method_2_132 rfl (z := 1) rfl ?_
                        refine WP.goto (pc' := 137) d_method_2_133 (by decide) (by decide) ?_
                        refine WP.nret (t := .boolean) d_method_2_137 rfl (by simp) rfl (by decide) (by decide) ⟨b2i_t (by simp only [Int32.lt_iff_toInt_lt, Int32.le_iff_toInt_le, ← Int32.toInt_inj, Int32.reduceToInt, TC] at hc3 hc17 hc31 hc37 hc45 hc51 hc57 hc63 hc69 hc75 hc81 ⊢; omega), rfl⟩
                      · intro hc81
                        refine WP.iloadN (pc' := 85) d_method_2_84 rfl rfl ?_
                        refine WP.bipush (pc' := 87) d_method_2_85 rfl (z := 43) rfl ?_
                        refine WP.icmp_eq (pc1 := 132) (pc2 := 90) d_method_2_87 (by decide) (by decide) rfl ?_ ?_
                        · intro hc87
                          refine WP.iconst (pc' := 133) d_method_2_132 rfl (z := 1) rfl ?_
                          refine WP.goto (pc' := 137) d_method_2_133 (by decide) (by decide) ?_
                          refine WP.nret (t := .boolean) d_method_2_137 rfl (by simp) rfl (by decide) (by decide) ⟨b2i_t (by simp only [Int32.lt_iff_toInt_lt, Int32.le_iff_toInt_le, ← Int32.toInt_inj, Int32.reduceToInt, TC] at hc3 hc17 hc31 hc37 hc45 hc51 hc57 hc63 hc69 hc75 hc81 hc87 ⊢; omega), rfl⟩
                        · intro hc87
                          refine WP.iloadN (pc' := 91) d_method_2_90 rfl rfl ?_
                          refine WP.bipush (pc' := 93) d_method_2_91 rfl (z := 45) rfl ?_
                          refine WP.icmp_eq (pc1 := 132) (pc2 := 96) d_method_2_93 (by decide) (by decide) rfl ?_ ?_
                          · intro hc93
                            refine WP.iconst (pc' := 133) d_method_2_132 rfl (z := 1) rfl ?_
                            refine WP.goto (pc' := 137) d_method_2_133 (by decide) (by decide) ?_
                            refine WP.nret (t := .boolean) d_method_2_137 rfl (by simp) rfl (by decide) (by decide) ⟨b2i_t (by simp only [Int32.lt_iff_toInt_lt, Int32.le_iff_toInt_le, ← Int32.toInt_inj, Int32.reduceToInt, TC] at hc3 hc17 hc31 hc37 hc45 hc51 hc57 hc63 hc69 hc75 hc81 hc87 hc93 ⊢; omega), rfl⟩
                          · intro hc93
                            refine WP.iloadN (pc' := 97) d_method_2_96 rfl rfl ?_
                            refine WP.bipush (pc' := 99) d_method_2_97 rfl (z := 46) rfl ?_
                            refine WP.icmp_eq (pc1 := 132) (pc2 := 102) d_method_2_99 (by decide) (by decide) rfl ?_ ?_
                            · intro hc99
                              refine WP.iconst (pc' := 133) d_method_2_132 rfl (z := 1) rfl ?_
                              refine WP.goto (pc' := 137) d_method_2_133 (by decide) (by decide) ?_
                              refine WP.nret (t := .boolean) d_method_2_137 rfl (by simp) rfl (by decide) (by decide) ⟨b2i_t (by simp only [Int32.lt_iff_toInt_lt, Int32.le_iff_toInt_le, ← Int32.toInt_inj, Int32.reduceToInt, TC] at hc3 hc17 hc31 hc37 hc45 hc51 hc57 hc63 hc69 hc75 hc81 hc87 hc93 hc99 ⊢; omega), rfl⟩
                            · intro hc99
                              refine WP.iloadN (pc' := 103) d_method_2_102 rfl rfl ?_
                              refine WP.bipush (pc' := 105) d_method_2_103 rfl (z := 94) rfl ?_
                              refine WP.icmp_eq (pc1 := 132) (pc2 := 108) d_method_2_105 (by decide) (by decide) rfl ?_ ?_
                              · intro hc105
                                refine WP.iconst (pc' := 133) d_method_2_132 rfl (z := 1) rfl ?_
                                refine WP.goto (pc' := 137) d_method_2_133 (by decide) (by decide) ?_
                                refine WP.nret (t := .boolean) d_method_2_137 rfl (by simp) rfl (by decide) (by decide) ⟨b2i_t (by simp only [Int32.lt_iff_toInt_lt, Int32.le_iff_toInt_le, ← Int32.toInt_inj, Int32.reduceToInt, TC] at hc3 hc17 hc31 hc37 hc45 hc51 hc57 hc63 hc69 hc75 hc81 hc87 hc93 hc99 hc105 ⊢; omega), rfl⟩
                              · intro hc105
                                refine WP.iloadN (pc' := 109) d_method_2_108 rfl rfl ?_
                                refine WP.bipush (pc' := 111) d_method_2_109 rfl (z := 95) rfl ?_
                                refine WP.icmp_eq (pc1 := 132) (pc2 := 114) d_method_2_111 (by decide) (by decide) rfl ?_ ?_
                                · intro hc111
                                  refine WP.iconst (pc' := 133) d_method_2_132 rfl (z := 1) rfl ?_
                                  refine WP.goto (pc' := 137) d_method_2_133 (by decide) (by decide) ?_
                                  refine WP.nret (t := .boolean) d_method_2_137 rfl (by simp) rfl (by decide) (by decide) ⟨b2i_t (by simp only [Int32.lt_iff_toInt_lt, Int32.le_iff_toInt_le, ← Int32.toInt_inj, Int32.reduceToInt, TC] at hc3 hc17 hc31 hc37 hc45 hc51 hc57 hc63 hc69 hc75 hc81 hc87 hc93 hc99 hc105 hc111 ⊢; omega), rfl⟩
                                · intro hc111
                                  refine WP.iloadN (pc' := 115) d_method_2_114 rfl rfl ?_
                                  refine WP.bipush (pc' := 117) d_method_2_115 rfl (z := 96) rfl ?_
                                  refine WP.icmp_eq (pc1 := 132) (pc2 := 120) d_method_2_117 (by decide) (by decide) rfl ?_ ?_
                                  · intro hc117
                                    refine WP.iconst (pc' := 133) d_method_2_132 rfl (z := 1) rfl ?_
                                    refine WP.goto (pc' := 137) d_method_2_133 (by decide) (by decide) ?_
                                    refine WP.nret (t := .boolean) d_method_2_137 rfl (by simp) rfl (by decide) (by decide) ⟨b2i_t (by simp only [Int32.lt_iff_toInt_lt, Int32.le_iff_toInt_le, ← Int32.toInt_inj, Int32.reduceToInt, TC] at hc3 hc17 hc31 hc37 hc45 hc51 hc57 hc63 hc69 hc75 hc81 hc87 hc93 hc99 hc105 hc111 hc117 ⊢; omega), rfl⟩
                                  · intro hc117
                                    refine WP.iloadN (pc' := 121) d_method_2_120 rfl rfl ?_
                                    refine WP.bipush (pc' := 123) d_method_2_121 rfl (z := 124) rfl ?_
                                    refine WP.icmp_eq (pc1 := 132) (pc2 := 126) d_method_2_123 (by decide) (by decide) rfl ?_ ?_
                                    · intro hc123
                                      refine WP.iconst (pc' := 133) d_method_2_132 rfl (z := 1) rfl ?_
                                      refine WP.goto (pc' := 137) d_method_2_133 (by decide) (by decide) ?_
                                      refine WP.nret (t := .boolean) d_method_2_137 rfl (by simp) rfl (by decide) (by decide) ⟨b2i_t (by simp only [Int32.lt_iff_toInt_lt, Int32.le_iff_toInt_le, ← Int32.toInt_inj, Int32.reduceToInt, TC] at hc3 hc17 hc31 hc37 hc45 hc51 hc57 hc63 hc69 hc75 hc81 hc87 hc93 hc99 hc105 hc111 hc117 hc123 ⊢; omega), rfl⟩
                                    · intro hc123
                                      refine WP.iloadN (pc' := 127) d_method_2_126 rfl rfl ?_
                                      refine WP.bipush (pc' := 129) d_method_2_127 rfl (z := 126) rfl ?_
                                      refine WP.icmp_ne (pc1 := 136) (pc2 := 132) d_method_2_129 (by decide) (by decide) rfl ?_ ?_
                                      · intro hc129
                                        refine WP.iconst (pc' := 137) d_method_2_136 rfl (z := 0) rfl ?_
                                        refine WP.nret (t := .boolean) d_method_2_137 rfl (by simp) rfl (by decide) (by decide) ⟨b2i_f (by simp only [Int32.lt_iff_toInt_lt, Int32.le_iff_toInt_le, ← Int32.toInt_inj, Int32.reduceToInt, TC] at hc3 hc17 hc31 hc37 hc45 hc51 hc57 hc63 hc69 hc75 hc81 hc87 hc93 hc99 hc105 hc111 hc117 hc123 hc129 ⊢; omega), rfl⟩
                                      · intro hc129
                                        refine WP.iconst (pc' := 133) d_method_2_132 rfl (z := 1) rfl ?_
                                        refine WP.goto (pc' := 137) d_method_2_133 (by decide) (by decide) ?_
                                        refine WP.nret (t := .boolean) d_method_2_137 rfl (by simp) rfl (by decide) (by decide) ⟨b2i_t (by simp only [Int32.lt_iff_toInt_lt, Int32.le_iff_toInt_le, ← Int32.toInt_inj, Int32.reduceToInt, TC] at hc3 hc17 hc31 hc37 hc45 hc51 hc57 hc63 hc69 hc75 hc81 hc87 hc93 hc99 hc105 hc111 hc117 hc123 hc129 ⊢; omega), rfl⟩
        · intro hc37
          refine WP.iconst (pc' := 41) d_method_2_40 rfl (z := 1) rfl ?_
          refine WP.nret (t := .boolean) d_method_2_41 rfl (by simp) rfl (by decide) (by decide) ⟨b2i_t (by simp only [Int32.lt_iff_toInt_lt, Int32.le_iff_toInt_le, ← Int32.toInt_inj, Int32.reduceToInt, TC] at hc3 hc17 hc31 hc37 ⊢; omega), rfl⟩
    · intro hc17
      refine WP.iloadN (pc' := 21) d_method_2_20 rfl rfl ?_
      refine WP.bipush (pc' := 23) d_method_2_21 rfl (z := 90) rfl ?_
      refine WP.icmp_gt (pc1 := 28) (pc2 := 26) d_method_2_23 (by decide) (by decide) rfl ?_ ?_
      · intro hc23
        refine WP.iloadN (pc' := 29) d_method_2_28 rfl rfl ?_
        refine WP.bipush (pc' := 31) d_method_2_29 rfl (z := 48) rfl ?_
        refine WP.icmp_lt (pc1 := 42) (pc2 := 34) d_method_2_31 (by decide) (by decide) rfl ?_ ?_
        · intro hc31
          refine WP.iloadN (pc' := 43) d_method_2_42 rfl rfl ?_
          refine WP.bipush (pc' := 45) d_method_2_43 rfl (z := 33) rfl ?_
          refine WP.icmp_eq (pc1 := 132) (pc2 := 48) d_method_2_45 (by decide) (by decide) rfl ?_ ?_
          · intro hc45
            refine WP.iconst (pc' := 133) d_method_2_132 rfl (z := 1) rfl ?_
            refine WP.goto (pc' := 137) d_method_2_133 (by decide) (by decide) ?_
            refine WP.nret (t := .boolean) d_method_2_137 rfl (by simp) rfl (by decide) (by decide) ⟨b2i_t (by simp only [Int32.lt_iff_toInt_lt, Int32.le_iff_toInt_le, ← Int32.toInt_inj, Int32.reduceToInt, TC] at hc3 hc17 hc23 hc31 hc45 ⊢; omega), rfl⟩
          · intro hc45
            refine WP.iloadN (pc' := 49) d_method_2_48 rfl rfl ?_
            refine WP.bipush (pc' := 51) d_method_2_49 rfl (z := 35) rfl ?_
            refine WP.icmp_eq (pc1 := 132) (pc2 := 54) d_method_2_51 (by decide) (by decide) rfl ?_ ?_
            · intro hc51
              refine WP.iconst (pc' := 133) d_method_2_132 rfl (z := 1) rfl ?_
              refine WP.goto (pc' := 137) d_method_2_133 (by decide) (by decide) ?_
              refine WP.nret (t := .boolean) d_method_2_137 rfl (by simp) rfl (by decide) (by decide) ⟨b2i_t (by simp only [Int32.lt_iff_toInt_lt, Int32.le_iff_toInt_le, ← Int32.toInt_inj, Int32.reduceToInt, TC] at hc3 hc17 hc23 hc31 hc45 hc51 ⊢; omega), rfl⟩
            · intro hc51
              refine WP.iloadN (pc' := 55) d_method_2_54 rfl rfl ?_
              refine WP.bipush (pc' := 57) d_method_2_55 rfl (z := 36) rfl ?_
              refine WP.icmp_eq (pc1 := 132) (pc2 := 60) d_method_2_57 (by decide) (by decide) rfl ?_ ?_
              · intro hc57
                refine WP.iconst (pc' := 133) d_method_2_132 rfl (z := 1) rfl ?_
                refine WP.goto (pc' := 137) d_method_2_133 (by decide) (by decide) ?_
                refine WP.nret (t := .boolean) d_method_2_137 rfl (by simp) rfl (by decide) (by decide) ⟨b2i_t (by simp only [Int32.lt_iff_toInt_lt, Int32.le_iff_toInt_le, ← Int32.toInt_inj, Int32.reduceToInt, TC] at hc3 hc17 hc23 hc31 hc45 hc51 hc57 ⊢; omega), rfl⟩
              · intro hc57
                refine WP.iloadN (pc' := 61) d_method_2_60 rfl rfl ?_
                refine WP.bipush (pc' := 63) d_method_2_61 rfl (z := 37) rfl ?_
                refine WP.icmp_eq (pc1 := 132) (pc2 := 66) d_method_2_63 (by decide) (by decide) rfl ?_ ?_
                · intro hc63
                  refine WP.iconst (pc' := 133) d_method_2_132 rfl (z := 1) rfl ?_
                  refine WP.goto (pc' := 137) d_method_2_133 (by decide) (by decide) ?_
                  refine WP.nret (t := .boolean) d_method_2_137 rfl (by simp) rfl (by decide) (by decide) ⟨b2i_t (by simp only [Int32.lt_iff_toInt_lt, Int32.le_iff_toInt_le, ← Int32.toInt_inj, Int32.reduceToInt, TC] at hc3 hc17 hc23 hc31 hc45 hc51 hc57 hc63 ⊢; omega), rfl⟩
                · intro hc63
                  refine WP.iloadN (pc' := 67) d_method_2_66 rfl rfl ?_
                  refine WP.bipush (pc' := 69) d_method_2_67 rfl (z := 38) rfl ?_
                  refine WP.icmp_eq (pc1 := 132) (pc2 := 72) d_method_2_69 (by decide) (by decide) rfl ?_ ?_
                  · intro hc69
                    refine WP.iconst (pc' := 133) d_method_2_132 rfl (z := 1) rfl ?_
                    refine WP.goto (pc' := 137) d_method_2_133 (by decide) (by decide) ?_
                    refine WP.nret (t := .boolean) d_method_2_137 rfl (by simp) rfl (by decide) (by decide) ⟨b2i_t (by simp only [Int32.lt_iff_toInt_lt, Int32.le_iff_toInt_le, ← Int32.toInt_inj, Int32.reduceToInt, TC] at hc3 hc17 hc23 hc31 hc45 hc51 hc57 hc63 hc69 ⊢; omega), rfl⟩
                  · intro hc69
                    refine WP.iloadN (pc' := 73) d_method_2_72 rfl rfl ?_
                    refine WP.bipush (pc' := 75) d_method_2_73 rfl (z := 39) rfl ?_
                    refine WP.icmp_eq (pc1 := 132) (pc2 := 78) d_method_2_75 (by decide) (by decide) rfl ?_ ?_
                    · intro hc75
                      refine WP.iconst (pc' := 133) d_method_2_132 rfl (z := 1) rfl ?_
                      refine WP.goto (pc' := 137) d_method_2_133 (by decide) (by decide) ?_
                      refine WP.nret (t := .boolean) d_method_2_137 rfl (by simp) rfl (by decide) (by decide) ⟨b2i_t (by simp only [Int32.lt_iff_toInt_lt, Int32.le_iff_toInt_le, ← Int32.toInt_inj, Int32.reduceToInt, TC] at hc3 hc17 hc23 hc31 hc45 hc51 hc57 hc63 hc69 hc75 ⊢; omega), rfl⟩
                    · intro hc75
                      refine WP.iloadN (pc' := 79) d_method_2_78 rfl rfl ?_
                      refine WP.bipush (pc' := 81) d_method_2_79 rfl (z := 42) rfl ?_
                      refine WP.icmp_eq (pc1 := 132) (pc2 := 84) d_method_2_81 (by decide) (by decide) rfl ?_ ?_
                      · intro hc81
                        refine WP.iconst (pc' := 133) d_method_2_132 rfl (z := 1) rfl ?_
                        refine WP.goto (pc' := 137) d_method_2_133 (by decide) (by decide) ?_
                        refine WP.nret (t := .boolean) d_method_2_137 rfl (by simp) rfl (by decide) (by decide) ⟨b2i_t (by simp only [Int32.lt_iff_toInt_lt, Int32.le_iff_toInt_le, ← Int32.toInt_inj, Int32.reduceToInt, TC] at hc3 hc17 hc23 hc31 hc45 hc51 hc57 hc63 hc69 hc75 hc81 ⊢; omega), rfl⟩
                      · intro hc81
                        refine WP.iloadN (pc' := 85) d_method_2_84 rfl rfl ?_
                        refine WP.bipush (pc' := 87) d_method_2_85 rfl (z := 43) rfl ?_
                        refine WP.icmp_eq (pc1 := 132) (pc2 := 90) d_method_2_87 (by decide) (by decide) rfl ?_ ?_
                        · intro hc87
                          refine WP.iconst (pc' := 133) d_method_2_132 rfl (z := 1) rfl ?_
                          refine WP.goto (pc' := 137) d_method_2_133 (by decide) (by decide) ?_
                          refine WP.nret (t := .boolean) d_method_2_137 rfl (by simp) rfl (by decide) (by decide) ⟨b2i_t (by simp only [Int32.lt_iff_toInt_lt, Int32.le_iff_toInt_le, ← Int32.toInt_inj, Int32.reduceToInt, TC] at hc3 hc17 hc23 hc31 hc45 hc51 hc57 hc63 hc69 hc75 hc81 hc87 ⊢; omega), rfl⟩
                        · intro hc87
                          refine WP.iloadN (pc' := 91) d_method_2_90 rfl rfl ?_
                          refine WP.bipush (pc' := 93) d_method_2_91 rfl (z := 45) rfl ?_
                          refine WP.icmp_eq (pc1 := 132) (pc2 := 96) d_method_2_93 (by decide) (by decide) rfl ?_ ?_
                          · intro hc93
                            refine WP.iconst (pc' := 133) d_method_2_132 rfl (z := 1) rfl ?_
                            refine WP.goto (pc' := 137) d_method_2_133 (by decide) (by decide) ?_
                            refine WP.nret (t := .boolean) d_method_2_137 rfl (by simp) rfl (by decide) (by decide) ⟨b2i_t (by simp only [Int32.lt_iff_toInt_lt, Int32.le_iff_toInt_le, ← Int32.toInt_inj, Int32.reduceToInt, TC] at hc3 hc17 hc23 hc31 hc45 hc51 hc57 hc63 hc69 hc75 hc81 hc87 hc93 ⊢; omega), rfl⟩
                          · intro hc93
                            refine WP.iloadN (pc' := 97) d_method_2_96 rfl rfl ?_
                            refine WP.bipush (pc' := 99) d_method_2_97 rfl (z := 46) rfl ?_
                            refine WP.icmp_eq (pc1 := 132) (pc2 := 102) d_method_2_99 (by decide) (by decide) rfl ?_ ?_
                            · intro hc99
                              refine WP.iconst (pc' := 133) d_method_2_132 rfl (z := 1) rfl ?_
                              refine WP.goto (pc' := 137) d_method_2_133 (by decide) (by decide) ?_
                              refine WP.nret (t := .boolean) d_method_2_137 rfl (by simp) rfl (by decide) (by decide) ⟨b2i_t (by simp only [Int32.lt_iff_toInt_lt, Int32.le_iff_toInt_le, ← Int32.toInt_inj, Int32.reduceToInt, TC] at hc3 hc17 hc23 hc31 hc45 hc51 hc57 hc63 hc69 hc75 hc81 hc87 hc93 hc99 ⊢; omega), rfl⟩
                            · intro hc99
                              refine WP.iloadN (pc' := 103) d_method_2_102 rfl rfl ?_
                              refine WP.bipush (pc' := 105) d_method_2_103 rfl (z := 94) rfl ?_
                              refine WP.icmp_eq (pc1 := 132) (pc2 := 108) d_method_2_105 (by decide) (by decide) rfl ?_ ?_
                              · intro hc105
                                refine WP.iconst (pc' := 133) d_method_2_132 rfl (z := 1) rfl ?_
                                refine WP.goto (pc' := 137) d_method_2_133 (by decide) (by decide) ?_
                                refine WP.nret (t := .boolean) d_method_2_137 rfl (by simp) rfl (by decide) (by decide) ⟨b2i_t (by simp only [Int32.lt_iff_toInt_lt, Int32.le_iff_toInt_le, ← Int32.toInt_inj, Int32.reduceToInt, TC] at hc3 hc17 hc23 hc31 hc45 hc51 hc57 hc63 hc69 hc75 hc81 hc87 hc93 hc99 hc105 ⊢; omega), rfl⟩
                              · intro hc105
                                refine WP.iloadN (pc' := 109) d_method_2_108 rfl rfl ?_
                                refine WP.bipush (pc' := 111) d_method_2_109 rfl (z := 95) rfl ?_
                                refine WP.icmp_eq (pc1 := 132) (pc2 := 114) d_method_2_111 (by decide) (by decide) rfl ?_ ?_
                                · intro hc111
                                  refine WP.iconst (pc' := 133) d_method_2_132 rfl (z := 1) rfl ?_
                                  refine WP.goto (pc' := 137) d_method_2_133 (by decide) (by decide) ?_
                                  refine WP.nret (t := .boolean) d_method_2_137 rfl (by simp) rfl (by decide) (by decide) ⟨b2i_t (by simp only [Int32.lt_iff_toInt_lt, Int32.le_iff_toInt_le, ← Int32.toInt_inj, Int32.reduceToInt, TC] at hc3 hc17 hc23 hc31 hc45 hc51 hc57 hc63 hc69 hc75 hc81 hc87 hc93 hc99 hc105 hc111 ⊢; omega), rfl⟩
                                · intro hc111
                                  refine WP.iloadN (pc' := 115) d_method_2_114 rfl rfl ?_
                                  refine WP.bipush (pc' := 117) d_method_2_115 rfl (z := 96) rfl ?_
                                  refine WP.icmp_eq (pc1 := 132) (pc2 := 120) d_method_2_117 (by decide) (by decide) rfl ?_ ?_
                                  · intro hc117
                                    refine WP.iconst (pc' := 133) d_method_2_132 rfl (z := 1) rfl ?_
                                    refine WP.goto (pc' := 137) d_method_2_133 (by decide) (by decide) ?_
                                    refine WP.nret (t := .boolean) d_method_2_137 rfl (by simp) rfl (by decide) (by decide) ⟨b2i_t (by simp only [Int32.lt_iff_toInt_lt, Int32.le_iff_toInt_le, ← Int32.toInt_inj, Int32.reduceToInt, TC] at hc3 hc17 hc23 hc31 hc45 hc51 hc57 hc63 hc69 hc75 hc81 hc87 hc93 hc99 hc105 hc111 hc117 ⊢; omega), rfl⟩
                                  · intro hc117
                                    refine WP.iloadN (pc' := 121) d_method_2_120 rfl rfl ?_
                                    refine WP.bipush (pc' := 123) d_method_2_121 rfl (z := 124) rfl ?_
                                    refine WP.icmp_eq (pc1 := 132) (pc2 := 126) d_method_2_123 (by decide) (by decide) rfl ?_ ?_
                                    · intro hc123
                                      refine WP.iconst (pc' := 133) d_method_2_132 rfl (z := 1) rfl ?_
                                      refine WP.goto (pc' := 137) d_method_2_133 (by decide) (by decide) ?_
                                      refine WP.nret (t := .boolean) d_method_2_137 rfl (by simp) rfl (by decide) (by decide) ⟨b2i_t (by simp only [Int32.lt_iff_toInt_lt, Int32.le_iff_toInt_le, ← Int32.toInt_inj, Int32.reduceToInt, TC] at hc3 hc17 hc23 hc31 hc45 hc51 hc57 hc63 hc69 hc75 hc81 hc87 hc93 hc99 hc105 hc111 hc117 hc123 ⊢; omega), rfl⟩
                                    · intro hc123
                                      refine WP.iloadN (pc' := 127) d_method_2_126 rfl rfl ?_
                                      refine WP.bipush (pc' := 129) d_method_2_127 rfl (z := 126) rfl ?_
                                      refine WP.icmp_ne (pc1 := 136) (pc2 := 132) d_method_2_129 (by decide) (by decide) rfl ?_ ?_
                                      · intro hc129
                                        refine WP.iconst (pc' := 137) d_method_2_136 rfl (z := 0) rfl ?_
                                        refine WP.nret (t := .boolean) d_method_2_137 rfl (by simp) rfl (by decide) (by decide) ⟨b2i_f (by simp only [Int32.lt_iff_toInt_lt, Int32.le_iff_toInt_le, ← Int32.toInt_inj, Int32.reduceToInt, TC] at hc3 hc17 hc23 hc31 hc45 hc51 hc57 hc63 hc69 hc75 hc81 hc87 hc93 hc99 hc105 hc111 hc117 hc123 hc129 ⊢; omega), rfl⟩
                                      · intro hc129
                                        refine WP.iconst (pc' := 133) d_method_2_132 rfl (z := 1) rfl ?_
                                        refine WP.goto (pc' := 137) d_method_2_133 (by decide) (by decide) ?_
                                        refine WP.nret (t := .boolean) d_method_2_137 rfl (by simp) rfl (by decide) (by decide) ⟨b2i_t (by simp only [Int32.lt_iff_toInt_lt, Int32.le_iff_toInt_le, ← Int32.toInt_inj, Int32.reduceToInt, TC] at hc3 hc17 hc23 hc31 hc45 hc51 hc57 hc63 hc69 hc75 hc81 hc87 hc93 hc99 hc105 hc111 hc117 hc123 hc129 ⊢; omega), rfl⟩
        · intro hc31
          refine WP.iloadN (pc' := 35) d_method_2_34 rfl rfl ?_
          refine WP.bipush (pc' := 37) d_method_2_35 rfl (z := 57) rfl ?_
          refine WP.icmp_gt (pc1 := 42) (pc2 := 40) d_method_2_37 (by decide) (by decide) rfl ?_ ?_
          · intro hc37
            refine WP.iloadN (pc' := 43) d_method_2_42 rfl rfl ?_
            refine WP.bipush (pc' := 45) d_method_2_43 rfl (z := 33) rfl ?_
            refine WP.icmp_eq (pc1 := 132) (pc2 := 48) d_method_2_45 (by decide) (by decide) rfl ?_ ?_
            · intro hc45
              refine WP.iconst (pc' := 133) d_method_2_132 rfl (z := 1) rfl ?_
              refine WP.goto (pc' := 137) d_method_2_133 (by decide) (by decide) ?_
              refine WP.nret (t := .boolean) d_method_2_137 rfl (by simp) rfl (by decide) (by decide) ⟨b2i_t (by simp only [Int32.lt_iff_toInt_lt, Int32.le_iff_toInt_le, ← Int32.toInt_inj, Int32.reduceToInt, TC] at hc3 hc17 hc23 hc31 hc37 hc45 ⊢; omega), rfl⟩
            · intro hc45
              refine WP.iloadN (pc' := 49) d_method_2_48 rfl rfl ?_
              refine WP.bipush (pc' := 51) d_method_2_49 rfl (z := 35) rfl ?_
              refine WP.icmp_eq (pc1 := 132) (pc2 := 54) d_method_2_51 (by decide) (by decide) rfl ?_ ?_
              · intro hc51
                refine WP.iconst (pc' := 133) d_method_2_132 rfl (z := 1) rfl ?_
                refine WP.goto (pc' := 137) d_method_2_133 (by decide) (by decide) ?_
                refine WP.nret (t := .boolean) d_method_2_137 rfl (by simp) rfl (by decide) (by decide) ⟨b2i_t (by simp only [Int32.lt_iff_toInt_lt, Int32.le_iff_toInt_le, ← Int32.toInt_inj, Int32.reduceToInt, TC] at hc3 hc17 hc23 hc31 hc37 hc45 hc51 ⊢; omega), rfl⟩
              · intro hc51
                refine WP.iloadN (pc' := 55) d_method_2_54 rfl rfl ?_
                refine WP.bipush (pc' := 57) d_method_2_55 rfl (z := 36) rfl ?_
                refine WP.icmp_eq (pc1 := 132) (pc2 := 60) d_method_2_57 (by decide) (by decide) rfl ?_ ?_
                · intro hc57
                  refine WP.iconst (pc' := 133) d_method_2_132 rfl (z := 1) rfl ?_
                  refine WP.goto (pc' := 137) d_method_2_133 (by decide) (by decide) ?_
                  refine WP.nret (t := .boolean) d_method_2_137 rfl (by simp) rfl (by decide) (by decide) ⟨b2i_t (by simp only [Int32.lt_iff_toInt_lt, Int32.le_iff_toInt_le, ← Int32.toInt_inj, Int32.reduceToInt, TC] at hc3 hc17 hc23 hc31 hc37 hc45 hc51 hc57 ⊢; omega), rfl⟩
                · intro hc57
                  refine WP.iloadN (pc' := 61) d_method_2_60 rfl rfl ?_
                  refine WP.bipush (pc' := 63) d_method_2_61 rfl (z := 37) rfl ?_
                  refine WP.icmp_eq (pc1 := 132) (pc2 := 66) d_method_2_63 (by decide) (by decide) rfl ?_ ?_
                  · intro hc63
                    refine WP.iconst (pc' := 133) d_method_2_132 rfl (z := 1) rfl ?_
                    refine WP.goto (pc' := 137) d_method_2_133 (by decide) (by decide) ?_
                    refine WP.nret (t := .boolean) d_method_2_137 rfl (by simp) rfl (by decide) (by decide) ⟨b2i_t (by simp only [Int32.lt_iff_toInt_lt, Int32.le_iff_toInt_le, ← Int32.toInt_inj, Int32.reduceToInt, TC] at hc3 hc17 hc23 hc31 hc37 hc45 hc51 hc57 hc63 ⊢; omega), rfl⟩
                  · intro hc63
                    refine WP.iloadN (pc' := 67) d_method_2_66 rfl rfl ?_
                    refine WP.bipush (pc' := 69) d_method_2_67 rfl (z := 38) rfl ?_
                    refine WP.icmp_eq (pc1 := 132) (pc2 := 72) d_method_2_69 (by decide) (by decide) rfl ?_ ?_
                    · intro hc69
                      refine WP.iconst (pc' := 133) d_method_2_132 rfl (z := 1) rfl ?_
                      refine WP.goto (pc' := 137) d_method_2_133 (by decide) (by decide) ?_
                      refine WP.nret (t := .boolean) d_method_2_137 rfl (by simp) rfl (by decide) (by decide) ⟨b2i_t (by simp only [Int32.lt_iff_toInt_lt, Int32.le_iff_toInt_le, ← Int32.toInt_inj, Int32.reduceToInt, TC] at hc3 hc17 hc23 hc31 hc37 hc45 hc51 hc57 hc63 hc69 ⊢; omega), rfl⟩
                    · intro hc69
                      refine WP.iloadN (pc' := 73) d_method_2_72 rfl rfl ?_
                      refine WP.bipush (pc' := 75) d_method_2_73 rfl (z := 39) rfl ?_
                      refine WP.icmp_eq (pc1 := 132) (pc2 := 78) d_method_2_75 (by decide) (by decide) rfl ?_ ?_
                      · intro hc75
                        refine WP.iconst (pc' := 133) d_method_2_132 rfl (z := 1) rfl ?_
                        refine WP.goto (pc' := 137) d_method_2_133 (by decide) (by decide) ?_
                        refine WP.nret (t := .boolean) d_method_2_137 rfl (by simp) rfl (by decide) (by decide) ⟨b2i_t (by simp only [Int32.lt_iff_toInt_lt, Int32.le_iff_toInt_le, ← Int32.toInt_inj, Int32.reduceToInt, TC] at hc3 hc17 hc23 hc31 hc37 hc45 hc51 hc57 hc63 hc69 hc75 ⊢; omega), rfl⟩
                      · intro hc75
                        refine WP.iloadN (pc' := 79) d_method_2_78 rfl rfl ?_
                        refine WP.bipush (pc' := 81) d_method_2_79 rfl (z := 42) rfl ?_
                        refine WP.icmp_eq (pc1 := 132) (pc2 := 84) d_method_2_81 (by decide) (by decide) rfl ?_ ?_
                        · intro hc81
                          refine WP.iconst (pc' := 133) d_method_2_132 rfl (z := 1) rfl ?_
                          refine WP.goto (pc' := 137) d_method_2_133 (by decide) (by decide) ?_
                          refine WP.nret (t := .boolean) d_method_2_137 rfl (by simp) rfl (by decide) (by decide) ⟨b2i_t (by simp only [Int32.lt_iff_toInt_lt, Int32.le_iff_toInt_le, ← Int32.toInt_inj, Int32.reduceToInt, TC] at hc3 hc17 hc23 hc31 hc37 hc45 hc51 hc57 hc63 hc69 hc75 hc81 ⊢; omega), rfl⟩
                        · intro hc81
                          refine WP.iloadN (pc' := 85) d_method_2_84 rfl rfl ?_
                          refine WP.bipush (pc' := 87) d_method_2_85 rfl (z := 43) rfl ?_
                          refine WP.icmp_eq (pc1 := 132) (pc2 := 90) d_method_2_87 (by decide) (by decide) rfl ?_ ?_
                          · intro hc87
                            refine WP.iconst (pc' := 133) d_method_2_132 rfl (z := 1) rfl ?_
                            refine WP.goto (pc' := 137) d_method_2_133 (by decide) (by decide) ?_
                            refine WP.nret (t := .boolean) d_method_2_137 rfl (by simp) rfl (by decide) (by decide) ⟨b2i_t (by simp only [Int32.lt_iff_toInt_lt, Int32.le_iff_toInt_le, ← Int32.toInt_inj, Int32.reduceToInt, TC] at hc3 hc17 hc23 hc31 hc37 hc45 hc51 hc57 hc63 hc69 hc75 hc81 hc87 ⊢; omega), rfl⟩
                          · intro hc87
                            refine WP.iloadN (pc' := 91) d_method_2_90 rfl rfl ?_
                            refine WP.bipush (pc' := 93) d_method_2_91 rfl (z := 45) rfl ?_
                            refine WP.icmp_eq (pc1 := 132) (pc2 := 96) d_method_2_93 (by decide) (by decide) rfl ?_ ?_
                            · intro hc93
                              refine WP.iconst (pc' := 133) d_method_2_132 rfl (z := 1) rfl ?_
                              refine WP.goto (pc' := 137) d_method_2_133 (by decide) (by decide) ?_
                              refine WP.nret (t := .boolean) d_method_2_137 rfl (by simp) rfl (by decide) (by decide) ⟨b2i_t (by simp only [Int32.lt_iff_toInt_lt, Int32.le_iff_toInt_le, ← Int32.toInt_inj, Int32.reduceToInt, TC] at hc3 hc17 hc23 hc31 hc37 hc45 hc51 hc57 hc63 hc69 hc75 hc81 hc87 hc93 ⊢; omega), rfl⟩
                            · intro hc93
                              refine WP.iloadN (pc' := 97) d_method_2_96 rfl rfl ?_
                              refine WP.bipush (pc' := 99) d_method_2_97 rfl (z := 46) rfl ?_
                              refine WP.icmp_eq (pc1 := 132) (pc2 := 102) d_method_2_99 (by decide) (by decide) rfl ?_ ?_
                              · intro hc99
                                refine WP.iconst (pc' := 133) d_method_2_132 rfl (z := 1) rfl ?_
                                refine WP.goto (pc' := 137) d_method_2_133 (by decide) (by decide) ?_
                                refine WP.nret (t := .boolean) d_method_2_137 rfl (by simp) rfl (by decide) (by decide) ⟨b2i_t (by simp only [Int32.lt_iff_toInt_lt, Int32.le_iff_toInt_le, ← Int32.toInt_inj, Int32.reduceToInt, TC] at hc3 hc17 hc23 hc31 hc37 hc45 hc51 hc57 hc63 hc69 hc75 hc81 hc87 hc93 hc99 ⊢; omega), rfl⟩
                              · intro hc99
                                refine WP.iloadN (pc' := 103) d_method_2_102 rfl rfl ?_
                                refine WP.bipush (pc' := 105) d_method_2_103 rfl (z := 94) rfl ?_
                                refine WP.icmp_eq (pc1 := 132) (pc2 := 108) d_method_2_105 (by decide) (by decide) rfl ?_ ?_
                                · intro hc105
                                  refine WP.iconst (pc' := 133) d_method_2_132 rfl (z := 1) rfl ?_
                                  refine WP.goto (pc' := 137) d_method_2_133 (by decide) (by decide) ?_
                                  refine WP.nret (t := .boolean) d_method_2_137 rfl (by simp) rfl (by decide) (by decide) ⟨b2i_t (by simp only [Int32.lt_iff_toInt_lt, Int32.le_iff_toInt_le, ← Int32.toInt_inj, Int32.reduceToInt, TC] at hc3 hc17 hc23 hc31 hc37 hc45 hc51 hc57 hc63 hc69 hc75 hc81 hc87 hc93 hc99 hc105 ⊢; omega), rfl⟩
                                · intro hc105
                                  refine WP.iloadN (pc' := 109) d_method_2_108 rfl rfl ?_
                                  refine WP.bipush (pc' := 111) d_method_2_109 rfl (z := 95) rfl ?_
                                  refine WP.icmp_eq (pc1 := 132) (pc2 := 114) d_method_2_111 (by decide) (by decide) rfl ?_ ?_
                                  · intro hc111
                                    refine WP.iconst (pc' := 133) d_method_2_132 rfl (z := 1) rfl ?_
                                    refine WP.goto (pc' := 137) d_method_2_133 (by decide) (by decide) ?_
                                    refine WP.nret (t := .boolean) d_method_2_137 rfl (by simp) rfl (by decide) (by decide) ⟨b2i_t (by simp only [Int32.lt_iff_toInt_lt, Int32.le_iff_toInt_le, ← Int32.toInt_inj, Int32.reduceToInt, TC] at hc3 hc17 hc23 hc31 hc37 hc45 hc51 hc57 hc63 hc69 hc75 hc81 hc87 hc93 hc99 hc105 hc111 ⊢; omega), rfl⟩
                                  · intro hc111
                                    refine WP.iloadN (pc' := 115) d_method_2_114 rfl rfl ?_
                                    refine WP.bipush (pc' := 117) d_method_2_115 rfl (z := 96) rfl ?_
                                    refine WP.icmp_eq (pc1 := 132) (pc2 := 120) d_method_2_117 (by decide) (by decide) rfl ?_ ?_
                                    · intro hc117
                                      refine WP.iconst (pc' := 133) d_method_2_132 rfl (z := 1) rfl ?_
                                      refine WP.goto (pc' := 137) d_method_2_133 (by decide) (by decide) ?_
                                      refine WP.nret (t := .boolean) d_method_2_137 rfl (by simp) rfl (by decide) (by decide) ⟨b2i_t (by simp only [Int32.lt_iff_toInt_lt, Int32.le_iff_toInt_le, ← Int32.toInt_inj, Int32.reduceToInt, TC] at hc3 hc17 hc23 hc31 hc37 hc45 hc51 hc57 hc63 hc69 hc75 hc81 hc87 hc93 hc99 hc105 hc111 hc117 ⊢; omega), rfl⟩
                                    · intro hc117
                                      refine WP.iloadN (pc' := 121) d_method_2_120 rfl rfl ?_
                                      refine WP.bipush (pc' := 123) d_method_2_121 rfl (z := 124) rfl ?_
                                      refine WP.icmp_eq (pc1 := 132) (pc2 := 126) d_method_2_123 (by decide) (by decide) rfl ?_ ?_
                                      · intro hc123
                                        refine WP.iconst (pc' := 133) d_method_2_132 rfl (z := 1) rfl ?_
                                        refine WP.goto (pc' := 137) d_method_2_133 (by decide) (by decide) ?_
                                        refine WP.nret (t := .boolean) d_method_2_137 rfl (by simp) rfl (by decide) (by decide) ⟨b2i_t (by simp only [Int32.lt_iff_toInt_lt, Int32.le_iff_toInt_le, ← Int32.toInt_inj, Int32.reduceToInt, TC] at hc3 hc17 hc23 hc31 hc37 hc45 hc51 hc57 hc63 hc69 hc75 hc81 hc87 hc93 hc99 hc105 hc111 hc117 hc123 ⊢; omega), rfl⟩
                                      · intro hc123
                                        refine WP.iloadN (pc' := 127) d_method_2_126 rfl rfl ?_
                                        refine WP.bipush (pc' := 129) d_method_2_127 rfl (z := 126) rfl ?_
                                        refine WP.icmp_ne (pc1 := 136) (pc2 := 132) d_method_2_129 (by decide) (by decide) rfl ?_ ?_
                                        · intro hc129
                                          refine WP.iconst (pc' := 137) d_method_2_136 rfl (z := 0) rfl ?_
                                          refine WP.nret (t := .boolean) d_method_2_137 rfl (by simp) rfl (by decide) (by decide) ⟨b2i_f (by simp only [Int32.lt_iff_toInt_lt, Int32.le_iff_toInt_le, ← Int32.toInt_inj, Int32.reduceToInt, TC] at hc3 hc17 hc23 hc31 hc37 hc45 hc51 hc57 hc63 hc69 hc75 hc81 hc87 hc93 hc99 hc105 hc111 hc117 hc123 hc129 ⊢; omega), rfl⟩
                                        · intro hc129
                                          refine WP.iconst (pc' := 133) d_method_2_132 rfl (z := 1) rfl ?_
                                          refine WP.goto (pc' := 137) d_method_2_133 (by decide) (by decide) ?_
                                          refine WP.nret (t := .boolean) d_method_2_137 rfl (by simp) rfl (by decide) (by decide) ⟨b2i_t (by simp only [Int32.lt_iff_toInt_lt, Int32.le_iff_toInt_le, ← Int32.toInt_inj, Int32.reduceToInt, TC] at hc3 hc17 hc23 hc31 hc37 hc45 hc51 hc57 hc63 hc69 hc75 hc81 hc87 hc93 hc99 hc105 hc111 hc117 hc123 hc129 ⊢; omega), rfl⟩
          · intro hc37
            refine WP.iconst (pc' := 41) d_method_2_40 rfl (z := 1) rfl ?_
            refine WP.nret (t := .boolean) d_method_2_41 rfl (by simp) rfl (by decide) (by decide) ⟨b2i_t (by simp only [Int32.lt_iff_toInt_lt, Int32.le_iff_toInt_le, ← Int32.toInt_inj, Int32.reduceToInt, TC] at hc3 hc17 hc23 hc31 hc37 ⊢; omega), rfl⟩
      · intro hc23
        refine WP.iconst (pc' := 27) d_method_2_26 rfl (z := 1) rfl ?_
        refine WP.nret (t := .boolean) d_method_2_27 rfl (by simp) rfl (by decide) (by decide) ⟨b2i_t (by simp only [Int32.lt_iff_toInt_lt, Int32.le_iff_toInt_le, ← Int32.toInt_inj, Int32.reduceToInt, TC] at hc3 hc17 hc23 ⊢; omega), rfl⟩
  · intro hc3
    refine WP.iloadN (pc' := 7) d_method_2_6 rfl rfl ?_
    refine WP.bipush (pc' := 9) d_method_2_7 rfl (z := 122) rfl ?_
    refine WP.icmp_gt (pc1 := 14) (pc2 := 12) d_method_2_9 (by decide) (by decide) rfl ?_ ?_
    · intro hc9
      refine WP.iloadN (pc' := 15) d_method_2_14 rfl rfl ?_
      refine WP.bipush (pc' := 17) d_method_2_15 rfl (z := 65) rfl ?_
      refine WP.icmp_lt (pc1 := 28) (pc2 := 20) d_method_2_17 (by decide) (by decide) rfl ?_ ?_
      · intro hc17
        refine WP.iloadN (pc' := 29) d_method_2_28 rfl rfl ?_
        refine WP.bipush (pc' := 31) d_method_2_29 rfl (z := 48) rfl ?_
        refine WP.icmp_lt (pc1 := 42) (pc2 := 34) d_method_2_31 (by decide) (by decide) rfl ?_ ?_
        · intro hc31
          refine WP.iloadN (pc' := 43) d_method_2_42 rfl rfl ?_
          refine WP.bipush (pc' := 45) d_method_2_43 rfl (z := 33) rfl ?_
          refine WP.icmp_eq (pc1 := 132) (pc2 := 48) d_method_2_45 (by decide) (by decide) rfl ?_ ?_
          · intro hc45
            refine WP.iconst (pc' := 133) d_method_2_132 rfl (z := 1) rfl ?_
            refine WP.goto (pc' := 137) d_method_2_133 (by decide) (by decide) ?_
            refine WP.nret (t := .boolean) d_method_2_137 rfl (by simp) rfl (by decide) (by decide) ⟨b2i_t (by simp only [Int32.lt_iff_toInt_lt, Int32.le_iff_toInt_le, ← Int32.toInt_inj, Int32.reduceToInt, TC] at hc3 hc9 hc17 hc31 hc45 ⊢; omega), rfl⟩
          · intro hc45
            refine WP.iloadN (pc' := 49) d_method_2_48 rfl rfl ?_
            refine WP.bipush (pc' := 51) d_method_2_49 rfl (z := 35) rfl ?_
            refine WP.icmp_eq (pc1 := 132) (pc2 := 54) d_method_2_51 (by decide) (by decide) rfl ?_ ?_
            · intro hc51
              refine WP.iconst (pc' := 133) d_method_2_132 rfl (z := 1) rfl ?_
              refine WP.goto (pc' := 137) d_method_2_133 (by decide) (by decide) ?_
              refine WP.nret (t := .boolean) d_method_2_137 rfl (by simp) rfl (by decide) (by decide) ⟨b2i_t (by simp only [Int32.lt_iff_toInt_lt, Int32.le_iff_toInt_le, ← Int32.toInt_inj, Int32.reduceToInt, TC] at hc3 hc9 hc17 hc31 hc45 hc51 ⊢; omega), rfl⟩
            · intro hc51
              refine WP.iloadN (pc' := 55) d_method_2_54 rfl rfl ?_
              refine WP.bipush (pc' := 57) d_method_2_55 rfl (z := 36) rfl ?_
              refine WP.icmp_eq (pc1 := 132) (pc2 := 60) d_method_2_57 (by decide) (by decide) rfl ?_ ?_
              · intro hc57
                refine WP.iconst (pc' := 133) d_method_2_132 rfl (z := 1) rfl ?_
                refine WP.goto (pc' := 137) d_method_2_133 (by decide) (by decide) ?_
                refine WP.nret (t := .boolean) d_method_2_137 rfl (by simp) rfl (by decide) (by decide) ⟨b2i_t (by simp only [Int32.lt_iff_toInt_lt, Int32.le_iff_toInt_le, ← Int32.toInt_inj, Int32.reduceToInt, TC] at hc3 hc9 hc17 hc31 hc45 hc51 hc57 ⊢; omega), rfl⟩
              · intro hc57
                refine WP.iloadN (pc' := 61) d_method_2_60 rfl rfl ?_
                refine WP.bipush (pc' := 63) d_method_2_61 rfl (z := 37) rfl ?_
                refine WP.icmp_eq (pc1 := 132) (pc2 := 66) d_method_2_63 (by decide) (by decide) rfl ?_ ?_
                · intro hc63
                  refine WP.iconst (pc' := 133) d_method_2_132 rfl (z := 1) rfl ?_
                  refine WP.goto (pc' := 137) d_method_2_133 (by decide) (by decide) ?_
                  refine WP.nret (t := .boolean) d_method_2_137 rfl (by simp) rfl (by decide) (by decide) ⟨b2i_t (by simp only [Int32.lt_iff_toInt_lt, Int32.le_iff_toInt_le, ← Int32.toInt_inj, Int32.reduceToInt, TC] at hc3 hc9 hc17 hc31 hc45 hc51 hc57 hc63 ⊢; omega), rfl⟩
                · intro hc63
                  refine WP.iloadN (pc' := 67) d_method_2_66 rfl rfl ?_
                  refine WP.bipush (pc' := 69) d_method_2_67 rfl (z := 38) rfl ?_
                  refine WP.icmp_eq (pc1 := 132) (pc2 := 72) d_method_2_69 (by decide) (by decide) rfl ?_ ?_
                  · intro hc69
                    refine WP.iconst (pc' := 133) d_method_2_132 rfl (z := 1) rfl ?_
                    refine WP.goto (pc' := 137) d_method_2_133 (by decide) (by decide) ?_
                    refine WP.nret (t := .boolean) d_method_2_137 rfl (by simp) rfl (by decide) (by decide) ⟨b2i_t (by simp only [Int32.lt_iff_toInt_lt, Int32.le_iff_toInt_le, ← Int32.toInt_inj, Int32.reduceToInt, TC] at hc3 hc9 hc17 hc31 hc45 hc51 hc57 hc63 hc69 ⊢; omega), rfl⟩
                  · intro hc69
                    refine WP.iloadN (pc' := 73) d_method_2_72 rfl rfl ?_
                    refine WP.bipush (pc' := 75) d_method_2_73 rfl (z := 39) rfl ?_
                    refine WP.icmp_eq (pc1 := 132) (pc2 := 78) d_method_2_75 (by decide) (by decide) rfl ?_ ?_
                    · intro hc75
                      refine WP.iconst (pc' := 133) d_method_2_132 rfl (z := 1) rfl ?_
                      refine WP.goto (pc' := 137) d_method_2_133 (by decide) (by decide) ?_
                      refine WP.nret (t := .boolean) d_method_2_137 rfl (by simp) rfl (by decide) (by decide) ⟨b2i_t (by simp only [Int32.lt_iff_toInt_lt, Int32.le_iff_toInt_le, ← Int32.toInt_inj, Int32.reduceToInt, TC] at hc3 hc9 hc17 hc31 hc45 hc51 hc57 hc63 hc69 hc75 ⊢; omega), rfl⟩
                    · intro hc75
                      refine WP.iloadN (pc' := 79) d_method_2_78 rfl rfl ?_
                      refine WP.bipush (pc' := 81) d_method_2_79 rfl (z := 42) rfl ?_
                      refine WP.icmp_eq (pc1 := 132) (pc2 := 84) d_method_2_81 (by decide) (by decide) rfl ?_ ?_
                      · intro hc81
                        refine WP.iconst (pc' := 133) d_method_2_132 rfl (z := 1) rfl ?_
                        refine WP.goto (pc' := 137) d_method_2_133 (by decide) (by decide) ?_
                        refine WP.nret (t := .boolean) d_method_2_137 rfl (by simp) rfl (by decide) (by decide) ⟨b2i_t (by simp only [Int32.lt_iff_toInt_lt, Int32.le_iff_toInt_le, ← Int32.toInt_inj, Int32.reduceToInt, TC] at hc3 hc9 hc17 hc31 hc45 hc51 hc57 hc63 hc69 hc75 hc81 ⊢; omega), rfl⟩
                      · intro hc81
                        refine WP.iloadN (pc' := 85) d_method_2_84 rfl rfl ?_
                        refine WP.bipush (pc' := 87) d_method_2_85 rfl (z := 43) rfl ?_
                        refine WP.icmp_eq (pc1 := 132) (pc2 := 90) d_method_2_87 (by decide) (by decide) rfl ?_ ?_
                        · intro hc87
                          refine WP.iconst (pc' := 133) d_method_2_132 rfl (z := 1) rfl ?_
                          refine WP.goto (pc' := 137) d_method_2_133 (by decide) (by decide) ?_
                          refine WP.nret (t := .boolean) d_method_2_137 rfl (by simp) rfl (by decide) (by decide) ⟨b2i_t (by simp only [Int32.lt_iff_toInt_lt, Int32.le_iff_toInt_le, ← Int32.toInt_inj, Int32.reduceToInt, TC] at hc3 hc9 hc17 hc31 hc45 hc51 hc57 hc63 hc69 hc75 hc81 hc87 ⊢; omega), rfl⟩
                        · intro hc87
                          refine WP.iloadN (pc' := 91) d_method_2_90 rfl rfl ?_
                          refine WP.bipush (pc' := 93) d_method_2_91 rfl (z := 45) rfl ?_
                          refine WP.icmp_eq (pc1 := 132) (pc2 := 96) d_method_2_93 (by decide) (by decide) rfl ?_ ?_
                          · intro hc93
                            refine WP.iconst (pc' := 133) d_method_2_132 rfl (z := 1) rfl ?_
                            refine WP.goto (pc' := 137) d_method_2_133 (by decide) (by decide) ?_
                            refine WP.nret (t := .boolean) d_method_2_137 rfl (by simp) rfl (by decide) (by decide) ⟨b2i_t (by simp only [Int32.lt_iff_toInt_lt, Int32.le_iff_toInt_le, ← Int32.toInt_inj, Int32.reduceToInt, TC] at hc3 hc9 hc17 hc31 hc45 hc51 hc57 hc63 hc69 hc75 hc81 hc87 hc93 ⊢; omega), rfl⟩
                          · intro hc93
                            refine WP.iloadN (pc' := 97) d_method_2_96 rfl rfl ?_
                            refine WP.bipush (pc' := 99) d_method_2_97 rfl (z := 46) rfl ?_
                            refine WP.icmp_eq (pc1 := 132) (pc2 := 102) d_method_2_99 (by decide) (by decide) rfl ?_ ?_
                            · intro hc99
                              refine WP.iconst (pc' := 133) d_method_2_132 rfl (z := 1) rfl ?_
                              refine WP.goto (pc' := 137) d_method_2_133 (by decide) (by decide) ?_
                              refine WP.nret (t := .boolean) d_method_2_137 rfl (by simp) rfl (by decide) (by decide) ⟨b2i_t (by simp only [Int32.lt_iff_toInt_lt, Int32.le_iff_toInt_le, ← Int32.toInt_inj, Int32.reduceToInt, TC] at hc3 hc9 hc17 hc31 hc45 hc51 hc57 hc63 hc69 hc75 hc81 hc87 hc93 hc99 ⊢; omega), rfl⟩
                            · intro hc99
                              refine WP.iloadN (pc' := 103) d_method_2_102 rfl rfl ?_
                              refine WP.bipush (pc' := 105) d_method_2_103 rfl (z := 94) rfl ?_
                              refine WP.icmp_eq (pc1 := 132) (pc2 := 108) d_method_2_105 (by decide) (by decide) rfl ?_ ?_
                              · intro hc105
                                refine WP.iconst (pc' := 133) d_method_2_132 rfl (z := 1) rfl ?_
                                refine WP.goto (pc' := 137) d_method_2_133 (by decide) (by decide) ?_
                                refine WP.nret (t := .boolean) d_method_2_137 rfl (by simp) rfl (by decide) (by decide) ⟨b2i_t (by simp only [Int32.lt_iff_toInt_lt, Int32.le_iff_toInt_le, ← Int32.toInt_inj, Int32.reduceToInt, TC] at hc3 hc9 hc17 hc31 hc45 hc51 hc57 hc63 hc69 hc75 hc81 hc87 hc93 hc99 hc105 ⊢; omega), rfl⟩
                              · intro hc105
                                refine WP.iloadN (pc' := 109) d_method_2_108 rfl rfl ?_
                                refine WP.bipush (pc' := 111) d_method_2_109 rfl (z := 95) rfl ?_
                                refine WP.icmp_eq (pc1 := 132) (pc2 := 114) d_method_2_111 (by decide) (by decide) rfl ?_ ?_
                                · intro hc111
                                  refine WP.iconst (pc' := 133) d_method_2_132 rfl (z := 1) rfl ?_
                                  refine WP.goto (pc' := 137) d_method_2_133 (by decide) (by decide) ?_
                                  refine WP.nret (t := .boolean) d_method_2_137 rfl (by simp) rfl (by decide) (by decide) ⟨b2i_t (by simp only [Int32.lt_iff_toInt_lt, Int32.le_iff_toInt_le, ← Int32.toInt_inj, Int32.reduceToInt, TC] at hc3 hc9 hc17 hc31 hc45 hc51 hc57 hc63 hc69 hc75 hc81 hc87 hc93 hc99 hc105 hc111 ⊢; omega), rfl⟩
                                · intro hc111
                                  refine WP.iloadN (pc' := 115) d_method_2_114 rfl rfl ?_
                                  refine WP.bipush (pc' := 117) d_method_2_115 rfl (z := 96) rfl ?_
                                  refine WP.icmp_eq (pc1 := 132) (pc2 := 120) d_method_2_117 (by decide) (by decide) rfl ?_ ?_
                                  · intro hc117
                                    refine WP.iconst (pc' := 133) d_method_2_132 rfl (z := 1) rfl ?_
                                    refine WP.goto (pc' := 137) d_method_2_133 (by decide) (by decide) ?_
                                    refine WP.nret (t := .boolean) d_method_2_137 rfl (by simp) rfl (by decide) (by decide) ⟨b2i_t (by simp only [Int32.lt_iff_toInt_lt, Int32.le_iff_toInt_le, ← Int32.toInt_inj, Int32.reduceToInt, TC] at hc3 hc9 hc17 hc31 hc45 hc51 hc57 hc63 hc69 hc75 hc81 hc87 hc93 hc99 hc105 hc111 hc117 ⊢; omega), rfl⟩
                                  · intro hc117
                                    refine WP.iloadN (pc' := 121) d_method_2_120 rfl rfl ?_
                                    refine WP.bipush (pc' := 123) d_method_2_121 rfl (z := 124) rfl ?_
                                    refine WP.icmp_eq (pc1 := 132) (pc2 := 126) d_method_2_123 (by decide) (by decide) rfl ?_ ?_
                                    · intro hc123
                                      refine WP.iconst (pc' := 133) d_method_2_132 rfl (z := 1) rfl ?_
                                      refine WP.goto (pc' := 137) d_method_2_133 (by decide) (by decide) ?_
                                      refine WP.nret (t := .boolean) d_method_2_137 rfl (by simp) rfl (by decide) (by decide) ⟨b2i_t (by simp only [Int32.lt_iff_toInt_lt, Int32.le_iff_toInt_le, ← Int32.toInt_inj, Int32.reduceToInt, TC] at hc3 hc9 hc17 hc31 hc45 hc51 hc57 hc63 hc69 hc75 hc81 hc87 hc93 hc99 hc105 hc111 hc117 hc123 ⊢; omega), rfl⟩
                                    · intro hc123
                                      refine WP.iloadN (pc' := 127) d_method_2_126 rfl rfl ?_
                                      refine WP.bipush (pc' := 129) d_method_2_127 rfl (z := 126) rfl ?_
                                      refine WP.icmp_ne (pc1 := 136) (pc2 := 132) d_method_2_129 (by decide) (by decide) rfl ?_ ?_
                                      · intro hc129
                                        refine WP.iconst (pc' := 137) d_method_2_136 rfl (z := 0) rfl ?_
                                        refine WP.nret (t := .boolean) d_method_2_137 rfl (by simp) rfl (by decide) (by decide) ⟨b2i_f (by simp only [Int32.lt_iff_toInt_lt, Int32.le_iff_toInt_le, ← Int32.toInt_inj, Int32.reduceToInt, TC] at hc3 hc9 hc17 hc31 hc45 hc51 hc57 hc63 hc69 hc75 hc81 hc87 hc93 hc99 hc105 hc111 hc117 hc123 hc129 ⊢; omega), rfl⟩
                                      · intro hc129
                                        refine WP.iconst (pc' := 133) d_method_2_132 rfl (z := 1) rfl ?_
                                        refine WP.goto (pc' := 137) d_method_2_133 (by decide) (by decide) ?_
                                        refine WP.nret (t := .boolean) d_method_2_137 rfl (by simp) rfl (by decide) (by decide) ⟨b2i_t (by simp only [Int32.lt_iff_toInt_lt, Int32.le_iff_toInt_le, ← Int32.toInt_inj, Int32.reduceToInt, TC] at hc3 hc9 hc17 hc31 hc45 hc51 hc57 hc63 hc69 hc75 hc81 hc87 hc93 hc99 hc105 hc111 hc117 hc123 hc129 ⊢; omega), rfl⟩
        · intro hc31
          refine WP.iloadN (pc' := 35) d_method_2_34 rfl rfl ?_
          refine WP.bipush (pc' := 37) d_method_2_35 rfl (z := 57) rfl ?_
          refine WP.icmp_gt (pc1 := 42) (pc2 := 40) d_method_2_37 (by decide) (by decide) rfl ?_ ?_
          · intro hc37
            refine WP.iloadN (pc' := 43) d_method_2_42 rfl rfl ?_
            refine WP.bipush (pc' := 45) d_method_2_43 rfl (z := 33) rfl ?_
            refine WP.icmp_eq (pc1 := 132) (pc2 := 48) d_method_2_45 (by decide) (by decide) rfl ?_ ?_
            · intro hc45
              refine WP.iconst (pc' := 133) d_method_2_132 rfl (z := 1) rfl ?_
              refine WP.goto (pc' := 137) d_method_2_133 (by decide) (by decide) ?_
              refine WP.nret (t := .boolean) d_method_2_137 rfl (by simp) rfl (by decide) (by decide) ⟨b2i_t (by simp only [Int32.lt_iff_toInt_lt, Int32.le_iff_toInt_le, ← Int32.toInt_inj, Int32.reduceToInt, TC] at hc3 hc9 hc17 hc31 hc37 hc45 ⊢; omega), rfl⟩
            · intro hc45
              refine WP.iloadN (pc' := 49) d_method_2_48 rfl rfl ?_
              refine WP.bipush (pc' := 51) d_method_2_49 rfl (z := 35) rfl ?_
              refine WP.icmp_eq (pc1 := 132) (pc2 := 54) d_method_2_51 (by decide) (by decide) rfl ?_ ?_
              · intro hc51
                refine WP.iconst (pc' := 133) d_method_2_132 rfl (z := 1) rfl ?_
                refine WP.goto (pc' := 137) d_method_2_133 (by decide) (by decide) ?_
                refine WP.nret (t := .boolean) d_method_2_137 rfl (by simp) rfl (by decide) (by decide) ⟨b2i_t (by simp only [Int32.lt_iff_toInt_lt, Int32.le_iff_toInt_le, ← Int32.toInt_inj, Int32.reduceToInt, TC] at hc3 hc9 hc17 hc31 hc37 hc45 hc51 ⊢; omega), rfl⟩
              · intro hc51
                refine WP.iloadN (pc' := 55) d_method_2_54 rfl rfl ?_
                refine WP.bipush (pc' := 57) d_method_2_55 rfl (z := 36) rfl ?_
                refine WP.icmp_eq (pc1 := 132) (pc2 := 60) d_method_2_57 (by decide) (by decide) rfl ?_ ?_
                · intro hc57
                  refine WP.iconst (pc' := 133) d_method_2_132 rfl (z := 1) rfl ?_
                  refine WP.goto (pc' := 137) d_method_2_133 (by decide) (by decide) ?_
                  refine WP.nret (t := .boolean) d_method_2_137 rfl (by simp) rfl (by decide) (by decide) ⟨b2i_t (by simp only [Int32.lt_iff_toInt_lt, Int32.le_iff_toInt_le, ← Int32.toInt_inj, Int32.reduceToInt, TC] at hc3 hc9 hc17 hc31 hc37 hc45 hc51 hc57 ⊢; omega), rfl⟩
                · intro hc57
                  refine WP.iloadN (pc' := 61) d_method_2_60 rfl rfl ?_
                  refine WP.bipush (pc' := 63) d_method_2_61 rfl (z := 37) rfl ?_
                  refine WP.icmp_eq (pc1 := 132) (pc2 := 66) d_method_2_63 (by decide) (by decide) rfl ?_ ?_
                  · intro hc63
                    refine WP.iconst (pc' := 133) d_method_2_132 rfl (z := 1) rfl ?_
                    refine WP.goto (pc' := 137) d_method_2_133 (by decide) (by decide) ?_
                    refine WP.nret (t := .boolean) d_method_2_137 rfl (by simp) rfl (by decide) (by decide) ⟨b2i_t (by simp only [Int32.lt_iff_toInt_lt, Int32.le_iff_toInt_le, ← Int32.toInt_inj, Int32.reduceToInt, TC] at hc3 hc9 hc17 hc31 hc37 hc45 hc51 hc57 hc63 ⊢; omega), rfl⟩
                  · intro hc63
                    refine WP.iloadN (pc' := 67) d_method_2_66 rfl rfl ?_
                    refine WP.bipush (pc' := 69) d_method_2_67 rfl (z := 38) rfl ?_
                    refine WP.icmp_eq (pc1 := 132) (pc2 := 72) d_method_2_69 (by decide) (by decide) rfl ?_ ?_
                    · intro hc69
                      refine WP.iconst (pc' := 133) d_method_2_132 rfl (z := 1) rfl ?_
                      refine WP.goto (pc' := 137) d_method_2_133 (by decide) (by decide) ?_
                      refine WP.nret (t := .boolean) d_method_2_137 rfl (by simp) rfl (by decide) (by decide) ⟨b2i_t (by simp only [Int32.lt_iff_toInt_lt, Int32.le_iff_toInt_le, ← Int32.toInt_inj, Int32.reduceToInt, TC] at hc3 hc9 hc17 hc31 hc37 hc45 hc51 hc57 hc63 hc69 ⊢; omega), rfl⟩
                    · intro hc69
                      refine WP.iloadN (pc' := 73) d_method_2_72 rfl rfl ?_
                      refine WP.bipush (pc' := 75) d_method_2_73 rfl (z := 39) rfl ?_
                      refine WP.icmp_eq (pc1 := 132) (pc2 := 78) d_method_2_75 (by decide) (by decide) rfl ?_ ?_
                      · intro hc75
                        refine WP.iconst (pc' := 133) d_method_2_132 rfl (z := 1) rfl ?_
                        refine WP.goto (pc' := 137) d_method_2_133 (by decide) (by decide) ?_
                        refine WP.nret (t := .boolean) d_method_2_137 rfl (by simp) rfl (by decide) (by decide) ⟨b2i_t (by simp only [Int32.lt_iff_toInt_lt, Int32.le_iff_toInt_le, ← Int32.toInt_inj, Int32.reduceToInt, TC] at hc3 hc9 hc17 hc31 hc37 hc45 hc51 hc57 hc63 hc69 hc75 ⊢; omega), rfl⟩
                      · intro hc75
                        refine WP.iloadN (pc' := 79) d_method_2_78 rfl rfl ?_
                        refine WP.bipush (pc' := 81) d_method_2_79 rfl (z := 42) rfl ?_
                        refine WP.icmp_eq (pc1 := 132) (pc2 := 84) d_method_2_81 (by decide) (by decide) rfl ?_ ?_
                        · intro hc81
                          refine WP.iconst (pc' := 133) d_method_2_132 rfl (z := 1) rfl ?_
                          refine WP.goto (pc' := 137) d_method_2_133 (by decide) (by decide) ?_
                          refine WP.nret (t := .boolean) d_method_2_137 rfl (by simp) rfl (by decide) (by decide) ⟨b2i_t (by simp only [Int32.lt_iff_toInt_lt, Int32.le_iff_toInt_le, ← Int32.toInt_inj, Int32.reduceToInt, TC] at hc3 hc9 hc17 hc31 hc37 hc45 hc51 hc57 hc63 hc69 hc75 hc81 ⊢; omega), rfl⟩
                        · intro hc81
                          refine WP.iloadN (pc' := 85) d_method_2_84 rfl rfl ?_
                          refine WP.bipush (pc' := 87) d_method_2_85 rfl (z := 43) rfl ?_
                          refine WP.icmp_eq (pc1 := 132) (pc2 := 90) d_method_2_87 (by decide) (by decide) rfl ?_ ?_
                          · intro hc87
                            refine WP.iconst (pc' := 133) d_method_2_132 rfl (z := 1) rfl ?_
                            refine WP.goto (pc' := 137) d_method_2_133 (by decide) (by decide) ?_
                            refine WP.nret (t := .boolean) d_method_2_137 rfl (by simp) rfl (by decide) (by decide) ⟨b2i_t (by simp only [Int32.lt_iff_toInt_lt, Int32.le_iff_toInt_le, ← Int32.toInt_inj, Int32.reduceToInt, TC] at hc3 hc9 hc17 hc31 hc37 hc45 hc51 hc57 hc63 hc69 hc75 hc81 hc87 ⊢; omega), rfl⟩
                          · intro hc87
                            refine WP.iloadN (pc' := 91) d_method_2_90 rfl rfl ?_
                            refine WP.bipush (pc' := 93) d_method_2_91 rfl (z := 45) rfl ?_
                            refine WP.icmp_eq (pc1 := 132) (pc2 := 96) d_method_2_93 (by decide) (by decide) rfl ?_ ?_
                            · intro hc93
                              refine WP.iconst (pc' := 133) d_method_2_132 rfl (z := 1) rfl ?_
                              refine WP.goto (pc' := 137) d_method_2_133 (by decide) (by decide) ?_
                              refine WP.nret (t := .boolean) d_method_2_137 rfl (by simp) rfl (by decide) (by decide) ⟨b2i_t (by simp only [Int32.lt_iff_toInt_lt, Int32.le_iff_toInt_le, ← Int32.toInt_inj, Int32.reduceToInt, TC] at hc3 hc9 hc17 hc31 hc37 hc45 hc51 hc57 hc63 hc69 hc75 hc81 hc87 hc93 ⊢; omega), rfl⟩
                            · intro hc93
                              refine WP.iloadN (pc' := 97) d_method_2_96 rfl rfl ?_
                              refine WP.bipush (pc' := 99) d_method_2_97 rfl (z := 46) rfl ?_
                              refine WP.icmp_eq (pc1 := 132) (pc2 := 102) d_method_2_99 (by decide) (by decide) rfl ?_ ?_
                              · intro hc99
                                refine WP.iconst (pc' := 133) d_method_2_132 rfl (z := 1) rfl ?_
                                refine WP.goto (pc' := 137) d_method_2_133 (by decide) (by decide) ?_
                                refine WP.nret (t := .boolean) d_method_2_137 rfl (by simp) rfl (by decide) (by decide) ⟨b2i_t (by simp only [Int32.lt_iff_toInt_lt, Int32.le_iff_toInt_le, ← Int32.toInt_inj, Int32.reduceToInt, TC] at hc3 hc9 hc17 hc31 hc37 hc45 hc51 hc57 hc63 hc69 hc75 hc81 hc87 hc93 hc99 ⊢; omega), rfl⟩
                              · intro hc99
                                refine WP.iloadN (pc' := 103) d_method_2_102 rfl rfl ?_
                                refine WP.bipush (pc' := 105) d_method_2_103 rfl (z := 94) rfl ?_
                                refine WP.icmp_eq (pc1 := 132) (pc2 := 108) d_method_2_105 (by decide) (by decide) rfl ?_ ?_
                                · intro hc105
                                  refine WP.iconst (pc' := 133) d_method_2_132 rfl (z := 1) rfl ?_
                                  refine WP.goto (pc' := 137) d_method_2_133 (by decide) (by decide) ?_
                                  refine WP.nret (t := .boolean) d_method_2_137 rfl (by simp) rfl (by decide) (by decide) ⟨b2i_t (by simp only [Int32.lt_iff_toInt_lt, Int32.le_iff_toInt_le, ← Int32.toInt_inj, Int32.reduceToInt, TC] at hc3 hc9 hc17 hc31 hc37 hc45 hc51 hc57 hc63 hc69 hc75 hc81 hc87 hc93 hc99 hc105 ⊢; omega), rfl⟩
                                · intro hc105
                                  refine WP.iloadN (pc' := 109) d_method_2_108 rfl rfl ?_
                                  refine WP.bipush (pc' := 111) d_method_2_109 rfl (z := 95) rfl ?_
                                  refine WP.icmp_eq (pc1 := 132) (pc2 := 114) d_method_2_111 (by decide) (by decide) rfl ?_ ?_
                                  · intro hc111
                                    refine WP.iconst (pc' := 133) d_method_2_132 rfl (z := 1) rfl ?_
                                    refine WP.goto (pc' := 137) d_method_2_133 (by decide) (by decide) ?_
                                    refine WP.nret (t := .boolean) d_method_2_137 rfl (by simp) rfl (by decide) (by decide) ⟨b2i_t (by simp only [Int32.lt_iff_toInt_lt, Int32.le_iff_toInt_le, ← Int32.toInt_inj, Int32.reduceToInt, TC] at hc3 hc9 hc17 hc31 hc37 hc45 hc51 hc57 hc63 hc69 hc75 hc81 hc87 hc93 hc99 hc105 hc111 ⊢; omega), rfl⟩
                                  · intro hc111
                                    refine WP.iloadN (pc' := 115) d_method_2_114 rfl rfl ?_
                                    refine WP.bipush (pc' := 117) d_method_2_115 rfl (z := 96) rfl ?_
                                    refine WP.icmp_eq (pc1 := 132) (pc2 := 120) d_method_2_117 (by decide) (by decide) rfl ?_ ?_
                                    · intro hc117
                                      refine WP.iconst (pc' := 133) d_method_2_132 rfl (z := 1) rfl ?_
                                      refine WP.goto (pc' := 137) d_method_2_133 (by decide) (by decide) ?_
                                      refine WP.nret (t := .boolean) d_method_2_137 rfl (by simp) rfl (by decide) (by decide) ⟨b2i_t (by simp only [Int32.lt_iff_toInt_lt, Int32.le_iff_toInt_le, ← Int32.toInt_inj, Int32.reduceToInt, TC] at hc3 hc9 hc17 hc31 hc37 hc45 hc51 hc57 hc63 hc69 hc75 hc81 hc87 hc93 hc99 hc105 hc111 hc117 ⊢; omega), rfl⟩
                                    · intro hc117
                                      refine WP.iloadN (pc' := 121) d_method_2_120 rfl rfl ?_
                                      refine WP.bipush (pc' := 123) d_method_2_121 rfl (z := 124) rfl ?_
                                      refine WP.icmp_eq (pc1 := 132) (pc2 := 126) d_method_2_123 (by decide) (by decide) rfl ?_ ?_
                                      · intro hc123
                                        refine WP.iconst (pc' := 133) d_method_2_132 rfl (z := 1) rfl ?_
                                        refine WP.goto (pc' := 137) d_method_2_133 (by decide) (by decide) ?_
                                        refine WP.nret (t := .boolean) d_method_2_137 rfl (by simp) rfl (by decide) (by decide) ⟨b2i_t (by simp only [Int32.lt_iff_toInt_lt, Int32.le_iff_toInt_le, ← Int32.toInt_inj, Int32.reduceToInt, TC] at hc3 hc9 hc17 hc31 hc37 hc45 hc51 hc57 hc63 hc69 hc75 hc81 hc87 hc93 hc99 hc105 hc111 hc117 hc123 ⊢; omega), rfl⟩
                                      · intro hc123
                                        refine WP.iloadN (pc' := 127) d_method_2_126 rfl rfl ?_
                                        refine WP.bipush (pc' := 129) d_method_2_127 rfl (z := 126) rfl ?_
                                        refine WP.icmp_ne (pc1 := 136) (pc2 := 132) d_method_2_129 (by decide) (by decide) rfl ?_ ?_
                                        · intro hc129
                                          refine WP.iconst (pc' := 137) d_method_2_136 rfl (z := 0) rfl ?_
                                          refine WP.nret (t := .boolean) d_method_2_137 rfl (by simp) rfl (by decide) (by decide) ⟨b2i_f (by simp only [Int32.lt_iff_toInt_lt, Int32.le_iff_toInt_le, ← Int32.toInt_inj, Int32.reduceToInt, TC] at hc3 hc9 hc17 hc31 hc37 hc45 hc51 hc57 hc63 hc69 hc75 hc81 hc87 hc93 hc99 hc105 hc111 hc117 hc123 hc129 ⊢; omega), rfl⟩
                                        · intro hc129
                                          refine WP.iconst (pc' := 133) d_method_2_132 rfl (z := 1) rfl ?_
                                          refine WP.goto (pc' := 137) d_method_2_133 (by decide) (by decide) ?_
                                          refine WP.nret (t := .boolean) d_method_2_137 rfl (by simp) rfl (by decide) (by decide) ⟨b2i_t (by simp only [Int32.lt_iff_toInt_lt, Int32.le_iff_toInt_le, ← Int32.toInt_inj, Int32.reduceToInt, TC] at hc3 hc9 hc17 hc31 hc37 hc45 hc51 hc57 hc63 hc69 hc75 hc81 hc87 hc93 hc99 hc105 hc111 hc117 hc123 hc129 ⊢; omega), rfl⟩
          · intro hc37
            refine WP.iconst (pc' := 41) d_method_2_40 rfl (z := 1) rfl ?_
            refine WP.nret (t := .boolean) d_method_2_41 rfl (by simp) rfl (by decide) (by decide) ⟨b2i_t (by simp only [Int32.lt_iff_toInt_lt, Int32.le_iff_toInt_le, ← Int32.toInt_inj, Int32.reduceToInt, TC] at hc3 hc9 hc17 hc31 hc37 ⊢; omega), rfl⟩
      · intro hc17
        refine WP.iloadN (pc' := 21) d_method_2_20 rfl rfl ?_
        refine WP.bipush (pc' := 23) d_method_2_21 rfl (z := 90) rfl ?_
        refine WP.icmp_gt (pc1 := 28) (pc2 := 26) d_method_2_23 (by decide) (by decide) rfl ?_ ?_
        · intro hc23
          refine WP.iloadN (pc' := 29) d_method_2_28 rfl rfl ?_
          refine WP.bipush (pc' := 31) d_method_2_29 rfl (z := 48) rfl ?_
          refine WP.icmp_lt (pc1 := 42) (pc2 := 34) d_method_2_31 (by decide) (by decide) rfl ?_ ?_
          · intro hc31
            refine WP.iloadN (pc' := 43) d_method_2_42 rfl rfl ?_
            refine WP.bipush (pc' := 45) d_method_2_43 rfl (z := 33) rfl ?_
            refine WP.icmp_eq (pc1 := 132) (pc2 := 48) d_method_2_45 (by decide) (by decide) rfl ?_ ?_
            · intro hc45
              refine WP.iconst (pc' := 133) d_method_2_132 rfl (z := 1) rfl ?_
              refine WP.goto (pc' := 137) d_method_2_133 (by decide) (by decide) ?_
              refine WP.nret (t := .boolean) d_method_2_137 rfl (by simp) rfl (by decide) (by decide) ⟨b2i_t (by simp only [Int32.lt_iff_toInt_lt, Int32.le_iff_toInt_le, ← Int32.toInt_inj, Int32.reduceToInt, TC] at hc3 hc9 hc17 hc23 hc31 hc45 ⊢; omega), rfl⟩
            · intro hc45
              refine WP.iloadN (pc' := 49) d_method_2_48 rfl rfl ?_
              refine WP.bipush (pc' := 51) d_method_2_49 rfl (z := 35) rfl ?_
              refine WP.icmp_eq (pc1 := 132) (pc2 := 54) d_method_2_51 (by decide) (by decide) rfl ?_ ?_
              · intro hc51
                refine WP.iconst (pc' := 133) d_method_2_132 rfl (z := 1) rfl ?_
                refine WP.goto (pc' := 137) d_method_2_133 (by decide) (by decide) ?_
                refine WP.nret (t := .boolean) d_method_2_137 rfl (by simp) rfl (by decide) (by decide) ⟨b2i_t (by simp only [Int32.lt_iff_toInt_lt, Int32.le_iff_toInt_le, ← Int32.toInt_inj, Int32.reduceToInt, TC] at hc3 hc9 hc17 hc23 hc31 hc45 hc51 ⊢; omega), rfl⟩
              · intro hc51
                refine WP.iloadN (pc' := 55) d_method_2_54 rfl rfl ?_
                refine WP.bipush (pc' := 57) d_method_2_55 rfl (z := 36) rfl ?_
                refine WP.icmp_eq (pc1 := 132) (pc2 := 60) d_method_2_57 (by decide) (by decide) rfl ?_ ?_
                · intro hc57
                  refine WP.iconst (pc' := 133) d_method_2_132 rfl (z := 1) rfl ?_
                  refine WP.goto (pc' := 137) d_method_2_133 (by decide) (by decide) ?_
                  refine WP.nret (t := .boolean) d_method_2_137 rfl (by simp) rfl (by decide) (by decide) ⟨b2i_t (by simp only [Int32.lt_iff_toInt_lt, Int32.le_iff_toInt_le, ← Int32.toInt_inj, Int32.reduceToInt, TC] at hc3 hc9 hc17 hc23 hc31 hc45 hc51 hc57 ⊢; omega), rfl⟩
                · intro hc57
                  refine WP.iloadN (pc' := 61) d_method_2_60 rfl rfl ?_
                  refine WP.bipush (pc' := 63) d_method_2_61 rfl (z := 37) rfl ?_
                  refine WP.icmp_eq (pc1 := 132) (pc2 := 66) d_method_2_63 (by decide) (by decide) rfl ?_ ?_
                  · intro hc63
                    refine WP.iconst (pc' := 133) d_method_2_132 rfl (z := 1) rfl ?_
                    refine WP.goto (pc' := 137) d_method_2_133 (by decide) (by decide) ?_
                    refine WP.nret (t := .boolean) d_method_2_137 rfl (by simp) rfl (by decide) (by decide) ⟨b2i_t (by simp only [Int32.lt_iff_toInt_lt, Int32.le_iff_toInt_le, ← Int32.toInt_inj, Int32.reduceToInt, TC] at hc3 hc9 hc17 hc23 hc31 hc45 hc51 hc57 hc63 ⊢; omega), rfl⟩
                  · intro hc63
                    refine WP.iloadN (pc' := 67) d_method_2_66 rfl rfl ?_
                    refine WP.bipush (pc' := 69) d_method_2_67 rfl (z := 38) rfl ?_
                    refine WP.icmp_eq (pc1 := 132) (pc2 := 72) d_method_2_69 (by decide) (by decide) rfl ?_ ?_
                    · intro hc69
                      refine WP.iconst (pc' := 133) d_method_2_132 rfl (z := 1) rfl ?_
                      refine WP.goto (pc' := 137) d_method_2_133 (by decide) (by decide) ?_
                      refine WP.nret (t := .boolean) d_method_2_137 rfl (by simp) rfl (by decide) (by decide) ⟨b2i_t (by simp only [Int32.lt_iff_toInt_lt, Int32.le_iff_toInt_le, ← Int32.toInt_inj, Int32.reduceToInt, TC] at hc3 hc9 hc17 hc23 hc31 hc45 hc51 hc57 hc63 hc69 ⊢; omega), rfl⟩
                    · intro hc69
                      refine WP.iloadN (pc' := 73) d_method_2_72 rfl rfl ?_
                      refine WP.bipush (pc' := 75) d_method_2_73 rfl (z := 39) rfl ?_
                      refine WP.icmp_eq (pc1 := 132) (pc2 := 78) d_method_2_75 (by decide) (by decide) rfl ?_ ?_
                      · intro hc75
                        refine WP.iconst (pc' := 133) d_method_2_132 rfl (z := 1) rfl ?_
                        refine WP.goto (pc' := 137) d_method_2_133 (by decide) (by decide) ?_
                        refine WP.nret (t := .boolean) d_method_2_137 rfl (by simp) rfl (by decide) (by decide) ⟨b2i_t (by simp only [Int32.lt_iff_toInt_lt, Int32.le_iff_toInt_le, ← Int32.toInt_inj, Int32.reduceToInt, TC] at hc3 hc9 hc17 hc23 hc31 hc45 hc51 hc57 hc63 hc69 hc75 ⊢; omega), rfl⟩
                      · intro hc75
                        refine WP.iloadN (pc' := 79) d_method_2_78 rfl rfl ?_
                        refine WP.bipush (pc' := 81) d_method_2_79 rfl (z := 42) rfl ?_
                        refine WP.icmp_eq (pc1 := 132) (pc2 := 84) d_method_2_81 (by decide) (by decide) rfl ?_ ?_
                        · intro hc81
                          refine WP.iconst (pc' := 133) d_method_2_132 rfl (z := 1) rfl ?_
                          refine WP.goto (pc' := 137) d_method_2_133 (by decide) (by decide) ?_
                          refine WP.nret (t := .boolean) d_method_2_137 rfl (by simp) rfl (by decide) (by decide) ⟨b2i_t (by simp only [Int32.lt_iff_toInt_lt, Int32.le_iff_toInt_le, ← Int32.toInt_inj, Int32.reduceToInt, TC] at hc3 hc9 hc17 hc23 hc31 hc45 hc51 hc57 hc63 hc69 hc75 hc81 ⊢; omega), rfl⟩
                        · intro hc81
                          refine WP.iloadN (pc' := 85) d_method_2_84 rfl rfl ?_
                          refine WP.bipush (pc' := 87) d_method_2_85 rfl (z := 43) rfl ?_
                          refine WP.icmp_eq (pc1 := 132) (pc2 := 90) d_method_2_87 (by decide) (by decide) rfl ?_ ?_
                          · intro hc87
                            refine WP.iconst (pc' := 133) d_method_2_132 rfl (z := 1) rfl ?_
                            refine WP.goto (pc' := 137) d_method_2_133 (by decide) (by decide) ?_
                            refine WP.nret (t := .boolean) d_method_2_137 rfl (by simp) rfl (by decide) (by decide) ⟨b2i_t (by simp only [Int32.lt_iff_toInt_lt, Int32.le_iff_toInt_le, ← Int32.toInt_inj, Int32.reduceToInt, TC] at hc3 hc9 hc17 hc23 hc31 hc45 hc51 hc57 hc63 hc69 hc75 hc81 hc87 ⊢; omega), rfl⟩
                          · intro hc87
                            refine WP.iloadN (pc' := 91) d_method_2_90 rfl rfl ?_
                            refine WP.bipush (pc' := 93) d_method_2_91 rfl (z := 45) rfl ?_
                            refine WP.icmp_eq (pc1 := 132) (pc2 := 96) d_method_2_93 (by decide) (by decide) rfl ?_ ?_
                            · intro hc93
                              refine WP.iconst (pc' := 133) d_method_2_132 rfl (z := 1) rfl ?_
                              refine WP.goto (pc' := 137) d_method_2_133 (by decide) (by decide) ?_
                              refine WP.nret (t := .boolean) d_method_2_137 rfl (by simp) rfl (by decide) (by decide) ⟨b2i_t (by simp only [Int32.lt_iff_toInt_lt, Int32.le_iff_toInt_le, ← Int32.toInt_inj, Int32.reduceToInt, TC] at hc3 hc9 hc17 hc23 hc31 hc45 hc51 hc57 hc63 hc69 hc75 hc81 hc87 hc93 ⊢; omega), rfl⟩
                            · intro hc93
                              refine WP.iloadN (pc' := 97) d_method_2_96 rfl rfl ?_
                              refine WP.bipush (pc' := 99) d_method_2_97 rfl (z := 46) rfl ?_
                              refine WP.icmp_eq (pc1 := 132) (pc2 := 102) d_method_2_99 (by decide) (by decide) rfl ?_ ?_
                              · intro hc99
                                refine WP.iconst (pc' := 133) d_method_2_132 rfl (z := 1) rfl ?_
                                refine WP.goto (pc' := 137) d_method_2_133 (by decide) (by decide) ?_
                                refine WP.nret (t := .boolean) d_method_2_137 rfl (by simp) rfl (by decide) (by decide) ⟨b2i_t (by simp only [Int32.lt_iff_toInt_lt, Int32.le_iff_toInt_le, ← Int32.toInt_inj, Int32.reduceToInt, TC] at hc3 hc9 hc17 hc23 hc31 hc45 hc51 hc57 hc63 hc69 hc75 hc81 hc87 hc93 hc99 ⊢; omega), rfl⟩
                              · intro hc99
                                refine WP.iloadN (pc' := 103) d_method_2_102 rfl rfl ?_
                                refine WP.bipush (pc' := 105) d_method_2_103 rfl (z := 94) rfl ?_
                                refine WP.icmp_eq (pc1 := 132) (pc2 := 108) d_method_2_105 (by decide) (by decide) rfl ?_ ?_
                                · intro hc105
                                  refine WP.iconst (pc' := 133) d_method_2_132 rfl (z := 1) rfl ?_
                                  refine WP.goto (pc' := 137) d_method_2_133 (by decide) (by decide) ?_
                                  refine WP.nret (t := .boolean) d_method_2_137 rfl (by simp) rfl (by decide) (by decide) ⟨b2i_t (by simp only [Int32.lt_iff_toInt_lt, Int32.le_iff_toInt_le, ← Int32.toInt_inj, Int32.reduceToInt, TC] at hc3 hc9 hc17 hc23 hc31 hc45 hc51 hc57 hc63 hc69 hc75 hc81 hc87 hc93 hc99 hc105 ⊢; omega), rfl⟩
                                · intro hc105
                                  refine WP.iloadN (pc' := 109) d_method_2_108 rfl rfl ?_
                                  refine WP.bipush (pc' := 111) d_method_2_109 rfl (z := 95) rfl ?_
                                  refine WP.icmp_eq (pc1 := 132) (pc2 := 114) d_method_2_111 (by decide) (by decide) rfl ?_ ?_
                                  · intro hc111
                                    refine WP.iconst (pc' := 133) d_method_2_132 rfl (z := 1) rfl ?_
                                    refine WP.goto (pc' := 137) d_method_2_133 (by decide) (by decide) ?_
                                    refine WP.nret (t := .boolean) d_method_2_137 rfl (by simp) rfl (by decide) (by decide) ⟨b2i_t (by simp only [Int32.lt_iff_toInt_lt, Int32.le_iff_toInt_le, ← Int32.toInt_inj, Int32.reduceToInt, TC] at hc3 hc9 hc17 hc23 hc31 hc45 hc51 hc57 hc63 hc69 hc75 hc81 hc87 hc93 hc99 hc105 hc111 ⊢; omega), rfl⟩
                                  · intro hc111
                                    refine WP.iloadN (pc' := 115) d_method_2_114 rfl rfl ?_
                                    refine WP.bipush (pc' := 117) d_method_2_115 rfl (z := 96) rfl ?_
                                    refine WP.icmp_eq (pc1 := 132) (pc2 := 120) d_method_2_117 (by decide) (by decide) rfl ?_ ?_
                                    · intro hc117
                                      refine WP.iconst (pc' := 133) d_method_2_132 rfl (z := 1) rfl ?_
                                      refine WP.goto (pc' := 137) d_method_2_133 (by decide) (by decide) ?_
                                      refine WP.nret (t := .boolean) d_method_2_137 rfl (by simp) rfl (by decide) (by decide) ⟨b2i_t (by simp only [Int32.lt_iff_toInt_lt, Int32.le_iff_toInt_le, ← Int32.toInt_inj, Int32.reduceToInt, TC] at hc3 hc9 hc17 hc23 hc31 hc45 hc51 hc57 hc63 hc69 hc75 hc81 hc87 hc93 hc99 hc105 hc111 hc117 ⊢; omega), rfl⟩
                                    · intro hc117
                                      refine WP.iloadN (pc' := 121) d_method_2_120 rfl rfl ?_
                                      refine WP.bipush (pc' := 123) d_method_2_121 rfl (z := 124) rfl ?_
                                      refine WP.icmp_eq (pc1 := 132) (pc2 := 126) d_method_2_123 (by decide) (by decide) rfl ?_ ?_
                                      · intro hc123
                                        refine WP.iconst (pc' := 133) d_method_2_132 rfl (z := 1) rfl ?_
                                        refine WP.goto (pc' := 137) d_method_2_133 (by decide) (by decide) ?_
                                        refine WP.nret (t := .boolean) d_method_2_137 rfl (by simp) rfl (by decide) (by decide) ⟨b2i_t (by simp only [Int32.lt_iff_toInt_lt, Int32.le_iff_toInt_le, ← Int32.toInt_inj, Int32.reduceToInt, TC] at hc3 hc9 hc17 hc23 hc31 hc45 hc51 hc57 hc63 hc69 hc75 hc81 hc87 hc93 hc99 hc105 hc111 hc117 hc123 ⊢; omega), rfl⟩
                                      · intro hc123
                                        refine WP.iloadN (pc' := 127) d_method_2_126 rfl rfl ?_
                                        refine WP.bipush (pc' := 129) d_method_2_127 rfl (z := 126) rfl ?_
                                        refine WP.icmp_ne (pc1 := 136) (pc2 := 132) d_method_2_129 (by decide) (by decide) rfl ?_ ?_
                                        · intro hc129
                                          refine WP.iconst (pc' := 137) d_method_2_136 rfl (z := 0) rfl ?_
                                          refine WP.nret (t := .boolean) d_method_2_137 rfl (by simp) rfl (by decide) (by decide) ⟨b2i_f (by simp only [Int32.lt_iff_toInt_lt, Int32.le_iff_toInt_le, ← Int32.toInt_inj, Int32.reduceToInt, TC] at hc3 hc9 hc17 hc23 hc31 hc45 hc51 hc57 hc63 hc69 hc75 hc81 hc87 hc93 hc99 hc105 hc111 hc117 hc123 hc129 ⊢; omega), rfl⟩
                                        · intro hc129
                                          refine WP.iconst (pc' := 133) d_method_2_132 rfl (z := 1) rfl ?_
                                          refine WP.goto (pc' := 137) d_method_2_133 (by decide) (by decide) ?_
                                          refine WP.nret (t := .boolean) d_method_2_137 rfl (by simp) rfl (by decide) (by decide) ⟨b2i_t (by simp only [Int32.lt_iff_toInt_lt, Int32.le_iff_toInt_le, ← Int32.toInt_inj, Int32.reduceToInt, TC] at hc3 hc9 hc17 hc23 hc31 hc45 hc51 hc57 hc63 hc69 hc75 hc81 hc87 hc93 hc99 hc105 hc111 hc117 hc123 hc129 ⊢; omega), rfl⟩
          · intro hc31
            refine WP.iloadN (pc' := 35) d_method_2_34 rfl rfl ?_
            refine WP.bipush (pc' := 37) d_method_2_35 rfl (z := 57) rfl ?_
            refine WP.icmp_gt (pc1 := 42) (pc2 := 40) d_method_2_37 (by decide) (by decide) rfl ?_ ?_
            · intro hc37
              refine WP.iloadN (pc' := 43) d_method_2_42 rfl rfl ?_
              refine WP.bipush (pc' := 45) d_method_2_43 rfl (z := 33) rfl ?_
              refine WP.icmp_eq (pc1 := 132) (pc2 := 48) d_method_2_45 (by decide) (by decide) rfl ?_ ?_
              · intro hc45
                refine WP.iconst (pc' := 133) d_method_2_132 rfl (z := 1) rfl ?_
                refine WP.goto (pc' := 137) d_method_2_133 (by decide) (by decide) ?_
                refine WP.nret (t := .boolean) d_method_2_137 rfl (by simp) rfl (by decide) (by decide) ⟨b2i_t (by simp only [Int32.lt_iff_toInt_lt, Int32.le_iff_toInt_le, ← Int32.toInt_inj, Int32.reduceToInt, TC] at hc3 hc9 hc17 hc23 hc31 hc37 hc45 ⊢; omega), rfl⟩
              · intro hc45
                refine WP.iloadN (pc' := 49) d_method_2_48 rfl rfl ?_
                refine WP.bipush (pc' := 51) d_method_2_49 rfl (z := 35) rfl ?_
                refine WP.icmp_eq (pc1 := 132) (pc2 := 54) d_method_2_51 (by decide) (by decide) rfl ?_ ?_
                · intro hc51
                  refine WP.iconst (pc' := 133) d_method_2_132 rfl (z := 1) rfl ?_
                  refine WP.goto (pc' := 137) d_method_2_133 (by decide) (by decide) ?_
                  refine WP.nret (t := .boolean) d_method_2_137 rfl (by simp) rfl (by decide) (by decide) ⟨b2i_t (by simp only [Int32.lt_iff_toInt_lt, Int32.le_iff_toInt_le, ← Int32.toInt_inj, Int32.reduceToInt, TC] at hc3 hc9 hc17 hc23 hc31 hc37 hc45 hc51 ⊢; omega), rfl⟩
                · intro hc51
                  refine WP.iloadN (pc' := 55) d_method_2_54 rfl rfl ?_
                  refine WP.bipush (pc' := 57) d_method_2_55 rfl (z := 36) rfl ?_
                  refine WP.icmp_eq (pc1 := 132) (pc2 := 60) d_method_2_57 (by decide) (by decide) rfl ?_ ?_
                  · intro hc57
                    refine WP.iconst (pc' := 133) d_method_2_132 rfl (z := 1) rfl ?_
                    refine WP.goto (pc' := 137) d_method_2_133 (by decide) (by decide) ?_
                    refine WP.nret (t := .boolean) d_method_2_137 rfl (by simp) rfl (by decide) (by decide) ⟨b2i_t (by simp only [Int32.lt_iff_toInt_lt, Int32.le_iff_toInt_le, ← Int32.toInt_inj, Int32.reduceToInt, TC] at hc3 hc9 hc17 hc23 hc31 hc37 hc45 hc51 hc57 ⊢; omega), rfl⟩
                  · intro hc57
                    refine WP.iloadN (pc' := 61) d_method_2_60 rfl rfl ?_
                    refine WP.bipush (pc' := 63) d_method_2_61 rfl (z := 37) rfl ?_
                    refine WP.icmp_eq (pc1 := 132) (pc2 := 66) d_method_2_63 (by decide) (by decide) rfl ?_ ?_
                    · intro hc63
                      refine WP.iconst (pc' := 133) d_method_2_132 rfl (z := 1) rfl ?_
                      refine WP.goto (pc' := 137) d_method_2_133 (by decide) (by decide) ?_
                      refine WP.nret (t := .boolean) d_method_2_137 rfl (by simp) rfl (by decide) (by decide) ⟨b2i_t (by simp only [Int32.lt_iff_toInt_lt, Int32.le_iff_toInt_le, ← Int32.toInt_inj, Int32.reduceToInt, TC] at hc3 hc9 hc17 hc23 hc31 hc37 hc45 hc51 hc57 hc63 ⊢; omega), rfl⟩
                    · intro hc63
                      refine WP.iloadN (pc' := 67) d_method_2_66 rfl rfl ?_
                      refine WP.bipush (pc' := 69) d_method_2_67 rfl (z := 38) rfl ?_
                      refine WP.icmp_eq (pc1 := 132) (pc2 := 72) d_method_2_69 (by decide) (by decide) rfl ?_ ?_
                      · intro hc69
                        refine WP.iconst (pc' := 133) d_method_2_132 rfl (z := 1) rfl ?_
                        refine WP.goto (pc' := 137) d_method_2_133 (by decide) (by decide) ?_
                        refine WP.nret (t := .boolean) d_method_2_137 rfl (by simp) rfl (by decide) (by decide) ⟨b2i_t (by simp only [Int32.lt_iff_toInt_lt, Int32.le_iff_toInt_le, ← Int32.toInt_inj, Int32.reduceToInt, TC] at hc3 hc9 hc17 hc23 hc31 hc37 hc45 hc51 hc57 hc63 hc69 ⊢; omega), rfl⟩
                      · intro hc69
                        refine WP.iloadN (pc' := 73) d_method_2_72 rfl rfl ?_
                        refine WP.bipush (pc' := 75) d_method_2_73 rfl (z := 39) rfl ?_
                        refine WP.icmp_eq (pc1 := 132) (pc2 := 78) d_method_2_75 (by decide) (by decide) rfl ?_ ?_
                        · intro hc75
                          refine WP.iconst (pc' := 133) d_method_2_132 rfl (z := 1) rfl ?_
                          refine WP.goto (pc' := 137) d_method_2_133 (by decide) (by decide) ?_
                          refine WP.nret (t := .boolean) d_method_2_137 rfl (by simp) rfl (by decide) (by decide) ⟨b2i_t (by simp only [Int32.lt_iff_toInt_lt, Int32.le_iff_toInt_le, ← Int32.toInt_inj, Int32.reduceToInt, TC] at hc3 hc9 hc17 hc23 hc31 hc37 hc45 hc51 hc57 hc63 hc69 hc75 ⊢; omega), rfl⟩
                        · intro hc75
                          refine WP.iloadN (pc' := 79) d_method_2_78 rfl rfl ?_
                          refine WP.bipush (pc' := 81) d_method_2_79 rfl (z := 42) rfl ?_
                          refine WP.icmp_eq (pc1 := 132) (pc2 := 84) d_method_2_81 (by decide) (by decide) rfl ?_ ?_
                          · intro hc81
                            refine WP.iconst (pc' := 133) d_method_2_132 rfl (z := 1) rfl ?_
                            refine WP.goto (pc' := 137) d_method_2_133 (by decide) (by decide) ?_
                            refine WP.nret (t := .boolean) d_method_2_137 rfl (by simp) rfl (by decide) (by decide) ⟨b2i_t (by simp only [Int32.lt_iff_toInt_lt, Int32.le_iff_toInt_le, ← Int32.toInt_inj, Int32.reduceToInt, TC] at hc3 hc9 hc17 hc23 hc31 hc37 hc45 hc51 hc57 hc63 hc69 hc75 hc81 ⊢; omega), rfl⟩
                          · intro hc81
                            refine WP.iloadN (pc' := 85) d_method_2_84 rfl rfl ?_
                            refine WP.bipush (pc' := 87) d_method_2_85 rfl (z := 43) rfl ?_
                            refine WP.icmp_eq (pc1 := 132) (pc2 := 90) d_method_2_87 (by decide) (by decide) rfl ?_ ?_
                            · intro hc87
                              refine WP.iconst (pc' := 133) d_method_2_132 rfl (z := 1) rfl ?_
                              refine WP.goto (pc' := 137) d_method_2_133 (by decide) (by decide) ?_
                              refine WP.nret (t := .boolean) d_method_2_137 rfl (by simp) rfl (by decide) (by decide) ⟨b2i_t (by simp only [Int32.lt_iff_toInt_lt, Int32.le_iff_toInt_le, ← Int32.toInt_inj, Int32.reduceToInt, TC] at hc3 hc9 hc17 hc23 hc31 hc37 hc45 hc51 hc57 hc63 hc69 hc75 hc81 hc87 ⊢; omega), rfl⟩
                            · intro hc87
                              refine WP.iloadN (pc' := 91) d_method_2_90 rfl rfl ?_
                              refine WP.bipush (pc' := 93) d_method_2_91 rfl (z := 45) rfl ?_
                              refine WP.icmp_eq (pc1 := 132) (pc2 := 96) d_method_2_93 (by decide) (by decide) rfl ?_ ?_
                              · intro hc93
                                refine WP.iconst (pc' := 133) d_method_2_132 rfl (z := 1) rfl ?_
                                refine WP.goto (pc' := 137) d_method_2_133 (by decide) (by decide) ?_
                                refine WP.nret (t := .boolean) d_method_2_137 rfl (by simp) rfl (by decide) (by decide) ⟨b2i_t (by simp only [Int32.lt_iff_toInt_lt, Int32.le_iff_toInt_le, ← Int32.toInt_inj, Int32.reduceToInt, TC] at hc3 hc9 hc17 hc23 hc31 hc37 hc45 hc51 hc57 hc63 hc69 hc75 hc81 hc87 hc93 ⊢; omega), rfl⟩
                              · intro hc93
                                refine WP.iloadN (pc' := 97) d_method_2_96 rfl rfl ?_
                                refine WP.bipush (pc' := 99) d_method_2_97 rfl (z := 46) rfl ?_
                                refine WP.icmp_eq (pc1 := 132) (pc2 := 102) d_method_2_99 (by decide) (by decide) rfl ?_ ?_
                                · intro hc99
                                  refine WP.iconst (pc' := 133) d_method_2_132 rfl (z := 1) rfl ?_
                                  refine WP.goto (pc' := 137) d_method_2_133 (by decide) (by decide) ?_
                                  refine WP.nret (t := .boolean) d_method_2_137 rfl (by simp) rfl (by decide) (by decide) ⟨b2i_t (by simp only [Int32.lt_iff_toInt_lt, Int32.le_iff_toInt_le, ← Int32.toInt_inj, Int32.reduceToInt, TC] at hc3 hc9 hc17 hc23 hc31 hc37 hc45 hc51 hc57 hc63 hc69 hc75 hc81 hc87 hc93 hc99 ⊢; omega), rfl⟩
                                · intro hc99
                                  refine WP.iloadN (pc' := 103) d_method_2_102 rfl rfl ?_
                                  refine WP.bipush (pc' := 105) d_method_2_103 rfl (z := 94) rfl ?_
                                  refine WP.icmp_eq (pc1 := 132) (pc2 := 108) d_method_2_105 (by decide) (by decide) rfl ?_ ?_
                                  · intro hc105
                                    refine WP.iconst (pc' := 133) d_method_2_132 rfl (z := 1) rfl ?_
                                    refine WP.goto (pc' := 137) d_method_2_133 (by decide) (by decide) ?_
                                    refine WP.nret (t := .boolean) d_method_2_137 rfl (by simp) rfl (by decide) (by decide) ⟨b2i_t (by simp only [Int32.lt_iff_toInt_lt, Int32.le_iff_toInt_le, ← Int32.toInt_inj, Int32.reduceToInt, TC] at hc3 hc9 hc17 hc23 hc31 hc37 hc45 hc51 hc57 hc63 hc69 hc75 hc81 hc87 hc93 hc99 hc105 ⊢; omega), rfl⟩
                                  · intro hc105
                                    refine WP.iloadN (pc' := 109) d_method_2_108 rfl rfl ?_
                                    refine WP.bipush (pc' := 111) d_method_2_109 rfl (z := 95) rfl ?_
                                    refine WP.icmp_eq (pc1 := 132) (pc2 := 114) d_method_2_111 (by decide) (by decide) rfl ?_ ?_
                                    · intro hc111
                                      refine WP.iconst (pc' := 133) d_method_2_132 rfl (z := 1) rfl ?_
                                      refine WP.goto (pc' := 137) d_method_2_133 (by decide) (by decide) ?_
                                      refine WP.nret (t := .boolean) d_method_2_137 rfl (by simp) rfl (by decide) (by decide) ⟨b2i_t (by simp only [Int32.lt_iff_toInt_lt, Int32.le_iff_toInt_le, ← Int32.toInt_inj, Int32.reduceToInt, TC] at hc3 hc9 hc17 hc23 hc31 hc37 hc45 hc51 hc57 hc63 hc69 hc75 hc81 hc87 hc93 hc99 hc105 hc111 ⊢; omega), rfl⟩
                                    · intro hc111
                                      refine WP.iloadN (pc' := 115) d_method_2_114 rfl rfl ?_
                                      refine WP.bipush (pc' := 117) d_method_2_115 rfl (z := 96) rfl ?_
                                      refine WP.icmp_eq (pc1 := 132) (pc2 := 120) d_method_2_117 (by decide) (by decide) rfl ?_ ?_
                                      · intro hc117
                                        refine WP.iconst (pc' := 133) d_method_2_132 rfl (z := 1) rfl ?_
                                        refine WP.goto (pc' := 137) d_method_2_133 (by decide) (by decide) ?_
                                        refine WP.nret (t := .boolean) d_method_2_137 rfl (by simp) rfl (by decide) (by decide) ⟨b2i_t (by simp only [Int32.lt_iff_toInt_lt, Int32.le_iff_toInt_le, ← Int32.toInt_inj, Int32.reduceToInt, TC] at hc3 hc9 hc17 hc23 hc31 hc37 hc45 hc51 hc57 hc63 hc69 hc75 hc81 hc87 hc93 hc99 hc105 hc111 hc117 ⊢; omega), rfl⟩
                                      · intro hc117
                                        refine WP.iloadN (pc' := 121) d_method_2_120 rfl rfl ?_
                                        refine WP.bipush (pc' := 123) d_method_2_121 rfl (z := 124) rfl ?_
                                        refine WP.icmp_eq (pc1 := 132) (pc2 := 126) d_method_2_123 (by decide) (by decide) rfl ?_ ?_
                                        · intro hc123
                                          refine WP.iconst (pc' := 133) d_method_2_132 rfl (z := 1) rfl ?_
                                          refine WP.goto (pc' := 137) d_method_2_133 (by decide) (by decide) ?_
                                          refine WP.nret (t := .boolean) d_method_2_137 rfl (by simp) rfl (by decide) (by decide) ⟨b2i_t (by simp only [Int32.lt_iff_toInt_lt, Int32.le_iff_toInt_le, ← Int32.toInt_inj, Int32.reduceToInt, TC] at hc3 hc9 hc17 hc23 hc31 hc37 hc45 hc51 hc57 hc63 hc69 hc75 hc81 hc87 hc93 hc99 hc105 hc111 hc117 hc123 ⊢; omega), rfl⟩
                                        · intro hc123
                                          refine WP.iloadN (pc' := 127) d_method_2_126 rfl rfl ?_
                                          refine WP.bipush (pc' := 129) d_method_2_127 rfl (z := 126) rfl ?_
                                          refine WP.icmp_ne (pc1 := 136) (pc2 := 132) d_method_2_129 (by decide) (by decide) rfl ?_ ?_
                                          · intro hc129
                                            refine WP.iconst (pc' := 137) d_method_2_136 rfl (z := 0) rfl ?_
                                            refine WP.nret (t := .boolean) d_method_2_137 rfl (by simp) rfl (by decide) (by decide) ⟨b2i_f (by simp only [Int32.lt_iff_toInt_lt, Int32.le_iff_toInt_le, ← Int32.toInt_inj, Int32.reduceToInt, TC] at hc3 hc9 hc17 hc23 hc31 hc37 hc45 hc51 hc57 hc63 hc69 hc75 hc81 hc87 hc93 hc99 hc105 hc111 hc117 hc123 hc129 ⊢; omega), rfl⟩
                                          · intro hc129
                                            refine WP.iconst (pc' := 133) d_method_2_132 rfl (z := 1) rfl ?_
                                            refine WP.goto (pc' := 137) d_method_2_133 (by decide) (by decide) ?_
                                            refine WP.nret (t := .boolean) d_method_2_137 rfl (by simp) rfl (by decide) (by decide) ⟨b2i_t (by simp only [Int32.lt_iff_toInt_lt, Int32.le_iff_toInt_le, ← Int32.toInt_inj, Int32.reduceToInt, TC] at hc3 hc9 hc17 hc23 hc31 hc37 hc45 hc51 hc57 hc63 hc69 hc75 hc81 hc87 hc93 hc99 hc105 hc111 hc117 hc123 hc129 ⊢; omega), rfl⟩
            · intro hc37
              refine WP.iconst (pc' := 41) d_method_2_40 rfl (z := 1) rfl ?_
              refine WP.nret (t := .boolean) d_method_2_41 rfl (by simp) rfl (by decide) (by decide) ⟨b2i_t (by simp only [Int32.lt_iff_toInt_lt, Int32.le_iff_toInt_le, ← Int32.toInt_inj, Int32.reduceToInt, TC] at hc3 hc9 hc17 hc23 hc31 hc37 ⊢; omega), rfl⟩
        · intro hc23
          refine WP.iconst (pc' := 27) d_method_2_26 rfl (z := 1) rfl ?_
          refine WP.nret (t := .boolean) d_method_2_27 rfl (by simp) rfl (by decide) (by decide) ⟨b2i_t (by simp only [Int32.lt_iff_toInt_lt, Int32.le_iff_toInt_le, ← Int32.toInt_inj, Int32.reduceToInt, TC] at hc3 hc9 hc17 hc23 ⊢; omega), rfl⟩
    · intro hc9
      refine WP.iconst (pc' := 13) d_method_2_12 rfl (z := 1) rfl ?_
      refine WP.nret (t := .boolean) d_method_2_13 rfl (by simp) rfl (by decide) (by decide) ⟨b2i_t (by simp only [Int32.lt_iff_toInt_lt, Int32.le_iff_toInt_le, ← Int32.toInt_inj, Int32.reduceToInt, TC] at hc3 hc9 ⊢; omega), rfl⟩
theorem wd0 {Z : State} {a0 : Array Value} (hw : ∀ d ∈ tables_1, d.before a0 Z = true) : (Jvm.Cond.methodLink "com/example/cordon/cordon/http/HttpHeadIsTokenCharPinLaw" (7 : Nat) ({ cls := "com/example/cordon/cordon/http/HttpHead", name := "isTokenChar", desc := "(C)Z" } : Jvm.MethodName)).before a0 Z = true := hw _ (List.mem_of_getElem? (i := 0) rfl)
theorem wd3 {Z : State} {a0 : Array Value} (hw : ∀ d ∈ tables_1, d.before a0 Z = true) : (Jvm.Cond.code ({ cls := "com/example/cordon/cordon/http/HttpHead", name := "isTokenChar", desc := "(C)Z" } : Jvm.MethodName) prog_24_method_6_code (1 : Nat) (Option.some Jvm.ClassFile.FieldType.boolean)).before a0 Z = true := hw _ (List.mem_of_getElem? (i := 3) rfl)
theorem wd2 {Z : State} {a0 : Array Value} (hw : ∀ d ∈ tables_1, d.before a0 Z = true) : (Jvm.Cond.initialized "com/example/cordon/cordon/http/HttpHead").before a0 Z = true := hw _ (List.mem_of_getElem? (i := 2) rfl)
theorem pd_0 : parseMethodDescriptor "(C)Z" = some ⟨[.char], some .boolean⟩ := by decide +kernel
theorem wd1 {Z : State} {a0 : Array Value} (hw : ∀ d ∈ tables_1, d.before a0 Z = true) : (Jvm.Cond.static ({ cls := "com/example/cordon/cordon/http/HttpHead", name := "isTokenChar", desc := "(C)Z" } : Jvm.MethodName)).before a0 Z = true := hw _ (List.mem_of_getElem? (i := 1) rfl)
theorem wd6 {Z : State} {a0 : Array Value} (hw : ∀ d ∈ tables_1, d.before a0 Z = true) : (Jvm.Cond.methodLink "com/example/cordon/cordon/http/HttpHeadIsTokenCharPinLaw" (13 : Nat) ({ cls := "com/example/cordon/cordon/http/HttpHeadIsTokenCharPinLaw", name := "isTchar", desc := "(C)Z" } : Jvm.MethodName)).before a0 Z = true := hw _ (List.mem_of_getElem? (i := 6) rfl)
theorem wd9 {Z : State} {a0 : Array Value} (hw : ∀ d ∈ tables_1, d.before a0 Z = true) : (Jvm.Cond.code ({ cls := "com/example/cordon/cordon/http/HttpHeadIsTokenCharPinLaw", name := "isTchar", desc := "(C)Z" } : Jvm.MethodName) method_2_code (1 : Nat) (Option.some Jvm.ClassFile.FieldType.boolean)).before a0 Z = true := hw _ (List.mem_of_getElem? (i := 9) rfl)
theorem wd8 {Z : State} {a0 : Array Value} (hw : ∀ d ∈ tables_1, d.before a0 Z = true) : (Jvm.Cond.initialized "com/example/cordon/cordon/http/HttpHeadIsTokenCharPinLaw").before a0 Z = true := hw _ (List.mem_of_getElem? (i := 8) rfl)
theorem wd7 {Z : State} {a0 : Array Value} (hw : ∀ d ∈ tables_1, d.before a0 Z = true) : (Jvm.Cond.static ({ cls := "com/example/cordon/cordon/http/HttpHeadIsTokenCharPinLaw", name := "isTchar", desc := "(C)Z" } : Jvm.MethodName)).before a0 Z = true := hw _ (List.mem_of_getElem? (i := 7) rfl)
set_option maxRecDepth 65536 in
set_option maxHeartbeats 40000000 in
theorem rm0 {Z : State} {a0 : Array Value} (hw : ∀ d ∈ tables_1, d.before a0 Z = true) (x0 : Int32) (x1 : Int32) (h0 : Heap) (n0 : Nat) (aT : Addr) (g : Nat → Int32) (S_T : Sta Z h0 "com/example/cordon/cordon/http/HttpHead" "TOKEN_CHARS" "[Z" (.ref aT)) (A_T : Ari Z h0 aT .boolean 128 g) (hG : ∀ p : Int32, 0 ≤ p.toInt → ((p.toInt < (128 : Int32).toInt ∧ ¬ g p.toInt.toNat = 0) ↔ TC p.toInt)) : ∀ l, Does l Z x code maxLocals ret room_1 n0 #[(.int x0), (.int x1)] h0 (fun v _ => v = some (.int 1)) := by
  intro l
  refine Does.of_wp (plainFor_of_name pn_1) (Ls := #[.val (.int x0), .val (.int x1), .unset]) (fun m => by first | (simp [entryFrame, mkF, argsToLocals, Value.category, maxLocals]; done) | rfl) ?_
  intro C
  refine WP.iloadN (pc' := 1) at_0 rfl rfl ?_
  refine WP.iconst (pc' := 2) at_1 rfl (z := 1) rfl ?_
  refine WP.iand (pc' := 3) at_2 rfl ?_
  refine WP.ifc_eq (pc1 := 14) (pc2 := 6) at_3 (by decide) (by decide) rfl ?_ ?_
  · intro hc3
    refine WP.iloadN (pc' := 15) at_14 rfl rfl ?_
    refine WP.i2c (pc' := 16) at_15 rfl ?_
    refine WP.istoreN (pc' := 17) at_16 rfl (Ls' := #[.val (.int x0), .val (.int x1), .val (.int (x0.toUInt32.toUInt16.toUInt32.toInt32))]) rfl ?_
    refine WP.iloadN (pc' := 18) at_17 rfl rfl ?_
    refine WP.callS (argsL := [(.int (x0.toUInt32.toUInt16.toUInt32.toInt32))]) (rest := []) (wd := 0) (cl' := 0) (sl' := 0) (pc' := 21) at_18 rfl (wd0 hw) (wd1 hw) (wd2 hw) (wd3 hw) (by decide) (m_itc hw (x0.toUInt32.toUInt16.toUInt32.toInt32) h0 n0 aT g S_T A_T (ch _)) pd_0 rfl rfl rfl (Nat.le_of_eq rfl) (by decide) (by decide) rfl rfl (by decide) (by decide) ?_
    rintro v hh1 ⟨rfl, he1⟩
    rw [he1]
    refine WP.castS (st' := [(.int (b2i (decide ((x0.toUInt32.toUInt16.toUInt32.toInt32).toInt < (128 : Int32).toInt ∧ ¬ g (x0.toUInt32.toUInt16.toUInt32.toInt32).toInt.toNat = 0))))]) rfl ?_
    refine WP.iloadN (pc' := 22) at_21 rfl rfl ?_
    refine WP.callS (argsL := [(.int (x0.toUInt32.toUInt16.toUInt32.toInt32))]) (rest := [(.int (b2i (decide ((x0.toUInt32.toUInt16.toUInt32.toInt32).toInt < (128 : Int32).toInt ∧ ¬ g (x0.toUInt32.toUInt16.toUInt32.toInt32).toInt.toNat = 0))))]) (wd := 1) (cl' := 0) (sl' := 0) (pc' := 25) at_22 rfl (wd6 hw) (wd7 hw) (wd8 hw) (wd9 hw) (by decide) (m_tch hw (x0.toUInt32.toUInt16.toUInt32.toInt32) h0 n0) pd_0 rfl rfl rfl (Nat.le_of_eq rfl) (by decide) (by decide) rfl rfl (by decide) (by decide) ?_
    rintro v hh2 ⟨rfl, he2⟩
    rw [he2]
    refine WP.castS (st' := [(.int (b2i (decide (TC (x0.toUInt32.toUInt16.toUInt32.toInt32).toInt)))), (.int (b2i (decide ((x0.toUInt32.toUInt16.toUInt32.toInt32).toInt < (128 : Int32).toInt ∧ ¬ g (x0.toUInt32.toUInt16.toUInt32.toInt32).toInt.toNat = 0))))]) rfl ?_
    have hc25 : (b2i (decide ((x0.toUInt32.toUInt16.toUInt32.toInt32).toInt < (128 : Int32).toInt ∧ ¬ g (x0.toUInt32.toUInt16.toUInt32.toInt32).toInt.toNat = 0))) = (b2i (decide (TC (x0.toUInt32.toUInt16.toUInt32.toInt32).toInt))) := b2i_congr (hG _ (ch _))
    refine WP.icmp_ne (pc1 := 32) (pc2 := 28) at_25 (by decide) (by decide) rfl (fun k => absurd hc25 k) (fun _ => ?_)
    refine WP.iconst (pc' := 29) at_28 rfl (z := 1) rfl ?_
    refine WP.goto (pc' := 33) at_29 (by decide) (by decide) ?_
    refine WP.nret (t := .boolean) at_33 rfl (by simp) rfl (by decide) (by decide) rfl
  · intro hc3
    refine WP.iloadN (pc' := 7) at_6 rfl rfl ?_
    refine WP.bipush (pc' := 9) at_7 rfl (z := 127) rfl ?_
    refine WP.iand (pc' := 10) at_9 rfl ?_
    refine WP.i2c (pc' := 11) at_10 rfl ?_
    refine WP.goto (pc' := 16) at_11 (by decide) (by decide) ?_
    refine WP.istoreN (pc' := 17) at_16 rfl (Ls' := #[.val (.int x0), .val (.int x1), .val (.int ((x0 &&& (127 : Int32)).toUInt32.toUInt16.toUInt32.toInt32))]) rfl ?_
    refine WP.iloadN (pc' := 18) at_17 rfl rfl ?_
    refine WP.callS (argsL := [(.int ((x0 &&& (127 : Int32)).toUInt32.toUInt16.toUInt32.toInt32))]) (rest := []) (wd := 0) (cl' := 0) (sl' := 0) (pc' := 21) at_18 rfl (wd0 hw) (wd1 hw) (wd2 hw) (wd3 hw) (by decide) (m_itc hw ((x0 &&& (127 : Int32)).toUInt32.toUInt16.toUInt32.toInt32) h0 n0 aT g S_T A_T (ch _)) pd_0 rfl rfl rfl (Nat.le_of_eq rfl) (by decide) (by decide) rfl rfl (by decide) (by decide) ?_
    rintro v hh3 ⟨rfl, he3⟩
    rw [he3]
    refine WP.castS (st' := [(.int (b2i (decide (((x0 &&& (127 : Int32)).toUInt32.toUInt16.toUInt32.toInt32).toInt < (128 : Int32).toInt ∧ ¬ g ((x0 &&& (127 : Int32)).toUInt32.toUInt16.toUInt32.toInt32).toInt.toNat = 0))))]) rfl ?_
    refine WP.iloadN (pc' := 22) at_21 rfl rfl ?_
    refine WP.callS (argsL := [(.int ((x0 &&& (127 : Int32)).toUInt32.toUInt16.toUInt32.toInt32))]) (rest := [(.int (b2i (decide (((x0 &&& (127 : Int32)).toUInt32.toUInt16.toUInt32.toInt32).toInt < (128 : Int32).toInt ∧ ¬ g ((x0 &&& (127 : Int32)).toUInt32.toUInt16.toUInt32.toInt32).toInt.toNat = 0))))]) (wd := 1) (cl' := 0) (sl' := 0) (pc' := 25) at_22 rfl (wd6 hw) (wd7 hw) (wd8 hw) (wd9 hw) (by decide) (m_tch hw ((x0 &&& (127 : Int32)).toUInt32.toUInt16.toUInt32.toInt32) h0 n0) pd_0 rfl rfl rfl (Nat.le_of_eq rfl) (by decide) (by decide) rfl rfl (by decide) (by decide) ?_
    rintro v hh4 ⟨rfl, he4⟩
    rw [he4]
    refine WP.castS (st' := [(.int (b2i (decide (TC ((x0 &&& (127 : Int32)).toUInt32.toUInt16.toUInt32.toInt32).toInt)))), (.int (b2i (decide (((x0 &&& (127 : Int32)).toUInt32.toUInt16.toUInt32.toInt32).toInt < (128 : Int32).toInt ∧ ¬ g ((x0 &&& (127 : Int32)).toUInt32.toUInt16.toUInt32.toInt32).toInt.toNat = 0))))]) rfl ?_
    have hc25 : (b2i (decide (((x0 &&& (127 : Int32)).toUInt32.toUInt16.toUInt32.toInt32).toInt < (128 : Int32).toInt ∧ ¬ g ((x0 &&& (127 : Int32)).toUInt32.toUInt16.toUInt32.toInt32).toInt.toNat = 0))) = (b2i (decide (TC ((x0 &&& (127 : Int32)).toUInt32.toUInt16.toUInt32.toInt32).toInt))) := b2i_congr (hG _ (ch _))
    refine WP.icmp_ne (pc1 := 32) (pc2 := 28) at_25 (by decide) (by decide) rfl (fun k => absurd hc25 k) (fun _ => ?_)
    refine WP.iconst (pc' := 29) at_28 rfl (z := 1) rfl ?_
    refine WP.goto (pc' := 33) at_29 (by decide) (by decide) ?_
    refine WP.nret (t := .boolean) at_33 rfl (by simp) rfl (by decide) (by decide) rfl
theorem wd5 {Z : State} {a0 : Array Value} (hw : ∀ d ∈ tables_1, d.before a0 Z = true) : (Jvm.Cond.laysStatic "com/example/cordon/cordon/http/HttpHead" "TOKEN_CHARS" "[Z").before a0 Z = true := hw _ (List.mem_of_getElem? (i := 5) rfl)
set_option maxRecDepth 65536 in
set_option maxHeartbeats 40000000 in
theorem comes_1 {Post : Tables → Env → Array Value → State → Outcome → State → Prop} (hpost : ∀ tb e args s v u, (limb_1_1.after args s (.returned v) u = true ∧ limb_1_2.after args s (.returned v) u = true ∧ True) → FrameEnd s (.returned v) u (Jvm.fieldLocs frame_1_writes args s ++ Jvm.arrayLocs frame_1_arrays args s ++ Jvm.staticLocs frame_1_statics s) 0 0 → Post tb e args s (.returned v) u) :
    ArmFor flags0 classFile x code maxLocals ret World_1 tables_1 room_1 Calls_1 rest_1 Pre_1 Post := by
  intro l hfl _ _ p e ha hc hk s m args below hf hA hF happ hP
  obtain ⟨hcalls, hrest, hpre⟩ := hP
  obtain ⟨-, -, -, hnamed, -, -, -, hat⟩ := (Spec.applies_iff hf).mp happ
  obtain ⟨hg, hn⟩ := and_e (Cond.before_iff.mp (show (Jvm.Cond.and given_1 narrow_1).before args s = true from hpre))
  obtain ⟨g1, g2⟩ := and_e hg
  obtain ⟨g3, g4⟩ := and_e g2
  obtain ⟨w0, w1, rfl⟩ : ∃ w0 w1 : Value, args = #[w0, w1] := by
    have hs : args.size = 2 := by simpa [Cond.value, given_1] using g1
    obtain ⟨L⟩ := args
    match L, hs with
    | [w0, w1], _ => exact ⟨w0, w1, rfl⟩
  have hw := fun d (hd : d ∈ tables_1) => atoms_spec (ws := Jvm.Cond.code x code maxLocals ret :: tables_1) hat d (List.mem_cons_of_mem _ hd)
  have hfit : Fit s := fun {y c} hc i hi => by
    obtain ⟨ha, rfl⟩ := Array.getElem?_eq_some_iff.mp hc
    have q := List.all_eq_true.mp ((Array.all_eq_true_iff_forall_mem.mp hF) _ (Array.getElem_mem ha)) i (List.mem_range.mpr hi)
    simpa [Array.getElem?_eq_getElem hi] using q
  obtain ⟨i0, ei0⟩ := is_v g3
  obtain rfl : w0 = (.int i0) := Option.some.inj ei0
  obtain ⟨i1, ei1⟩ := is_v g4
  obtain rfl : w1 = (.int i1) := Option.some.inj ei1
  obtain ⟨k5, k6⟩ := and_e hn
  obtain ⟨k7, k8⟩ := and_e k6
  obtain ⟨k9, k10⟩ := and_e k8
  obtain ⟨k11, k12⟩ := and_e k10
  obtain ⟨k13, k14⟩ := and_e k12
  obtain ⟨k15, k16⟩ := and_e k14
  obtain ⟨k17, k18⟩ := and_e k16
  obtain ⟨k19, k20⟩ := and_e k18
  obtain ⟨k21, k22⟩ := and_e k20
  obtain ⟨k23, k24⟩ := and_e k22
  obtain ⟨k25, k26⟩ := and_e k24
  obtain ⟨k27, k28⟩ := and_e k26
  obtain ⟨k29, k30⟩ := and_e k28
  obtain ⟨k31, k32⟩ := and_e k30
  obtain ⟨k33, k34⟩ := and_e k32
  obtain ⟨k35, k36⟩ := and_e k34
  obtain ⟨k37, k38⟩ := and_e k36
  obtain ⟨k39, k40⟩ := and_e k38
  obtain ⟨k41, k42⟩ := and_e k40
  obtain ⟨k43, k44⟩ := and_e k42
  obtain ⟨k45, k46⟩ := and_e k44
  obtain ⟨k47, k48⟩ := and_e k46
  obtain ⟨k49, k50⟩ := and_e k48
  obtain ⟨k51, k52⟩ := and_e k50
  obtain ⟨k53, k54⟩ := and_e k52
  obtain ⟨aT, g, S_T, A_T, hE, hAll, hI⟩ := Ari.of_static (k := 128) hfit k5 k7 (by simp) (Or.inr ⟨(wd2 hw), (wd5 hw)⟩) rfl
  have r0_33 : ∀ i : Nat, i < 128 → i < 33 → g i = 0 := fun i hi h => by
    rcases or_v (hAll _ k9 i hi) (idx_le (by omega)) with z | z
    · exact absurd z (by rw [show (33 : Int32).toInt = 33 from rfl]; omega)
    · exact hI i _ hi z
  have e33 := hE _ _ 33 k11 rfl
  have e34 := hE _ _ 34 k13 rfl
  have r35_40 : ∀ i : Nat, i < 128 → 35 ≤ i → i < 40 → g i = 1 := fun i hi h1 h2 => by
    rcases or_v (hAll _ k15 i hi) (idx_lt (by omega)) with z | z
    · exact absurd z (by rw [show (35 : Int32).toInt = 35 from rfl]; omega)
    · rcases or_v z (idx_le (by omega)) with z | z
      · exact absurd z (by rw [show (40 : Int32).toInt = 40 from rfl]; omega)
      · exact hI i _ hi z
  have e40 := hE _ _ 40 k17 rfl
  have e41 := hE _ _ 41 k19 rfl
  have e42 := hE _ _ 42 k21 rfl
  have e43 := hE _ _ 43 k23 rfl
  have e44 := hE _ _ 44 k25 rfl
  have e45 := hE _ _ 45 k27 rfl
  have e46 := hE _ _ 46 k29 rfl
  have e47 := hE _ _ 47 k31 rfl
  have r48_58 : ∀ i : Nat, i < 128 → 48 ≤ i → i < 58 → g i = 1 := fun i hi h1 h2 => by
    rcases or_v (hAll _ k33 i hi) (idx_lt (by omega)) with z | z
    · exact absurd z (by rw [show (48 : Int32).toInt = 48 from rfl]; omega)
    · rcases or_v z (idx_le (by omega)) with z | z
      · exact absurd z (by rw [show (58 : Int32).toInt = 58 from rfl]; omega)
      · exact hI i _ hi z
  have r58_65 : ∀ i : Nat, i < 128 → 58 ≤ i → i < 65 → g i = 0 := fun i hi h1 h2 => by
    rcases or_v (hAll _ k35 i hi) (idx_lt (by omega)) with z | z
    · exact absurd z (by rw [show (58 : Int32).toInt = 58 from rfl]; omega)
    · rcases or_v z (idx_le (by omega)) with z | z
      · exact absurd z (by rw [show (65 : Int32).toInt = 65 from rfl]; omega)
      · exact hI i _ hi z
  have r65_91 : ∀ i : Nat, i < 128 → 65 ≤ i → i < 91 → g i = 1 := fun i hi h1 h2 => by
    rcases or_v (hAll _ k37 i hi) (idx_lt (by omega)) with z | z
    · exact absurd z (by rw [show (65 : Int32).toInt = 65 from rfl]; omega)
    · rcases or_v z (idx_le (by omega)) with z | z
      · exact absurd z (by rw [show (91 : Int32).toInt = 91 from rfl]; omega)
      · exact hI i _ hi z
  have e91 := hE _ _ 91 k39 rfl
  have e92 := hE _ _ 92 k41 rfl
  have e93 := hE _ _ 93 k43 rfl
  have r94_123 : ∀ i : Nat, i < 128 → 94 ≤ i → i < 123 → g i = 1 := fun i hi h1 h2 => by
    rcases or_v (hAll _ k45 i hi) (idx_lt (by omega)) with z | z
    · exact absurd z (by rw [show (94 : Int32).toInt = 94 from rfl]; omega)
    · rcases or_v z (idx_le (by omega)) with z | z
      · exact absurd z (by rw [show (123 : Int32).toInt = 123 from rfl]; omega)
      · exact hI i _ hi z
  have e123 := hE _ _ 123 k47 rfl
  have e124 := hE _ _ 124 k49 rfl
  have e125 := hE _ _ 125 k51 rfl
  have e126 := hE _ _ 126 k53 rfl
  have e127 := hE _ _ 127 k54 rfl
  have hG : ∀ p : Int32, 0 ≤ p.toInt → ((p.toInt < (128 : Int32).toInt ∧ ¬ g p.toInt.toNat = 0) ↔ TC p.toInt) := fun p hp => by
    have e128 : (128 : Int32).toInt = 128 := rfl
    have h10 : ¬ (1 : Int32) = 0 := by decide
    by_cases hl : p.toInt < 128
    · obtain ⟨i, hi⟩ : ∃ i : Nat, p.toInt = (i : Int) := ⟨p.toInt.toNat, by omega⟩
      rw [hi, e128, Int.toNat_natCast]
      have hl' : i < 128 := by omega
      have hc : (0 ≤ i ∧ i < 33) ∨ i = 33 ∨ i = 34 ∨ (35 ≤ i ∧ i < 40) ∨ i = 40 ∨ i = 41 ∨ i = 42 ∨ i = 43 ∨ i = 44 ∨ i = 45 ∨ i = 46 ∨ i = 47 ∨ (48 ≤ i ∧ i < 58) ∨ (58 ≤ i ∧ i < 65) ∨ (65 ≤ i ∧ i < 91) ∨ i = 91 ∨ i = 92 ∨ i = 93 ∨ (94 ≤ i ∧ i < 123) ∨ i = 123 ∨ i = 124 ∨ i = 125 ∨ i = 126 ∨ i = 127 := by omega
      rcases hc with ⟨h1, h2⟩ | rfl | rfl | ⟨h1, h2⟩ | rfl | rfl | rfl | rfl | rfl | rfl | rfl | rfl | ⟨h1, h2⟩ | ⟨h1, h2⟩ | ⟨h1, h2⟩ | rfl | rfl | rfl | ⟨h1, h2⟩ | rfl | rfl | rfl | rfl | rfl
      · rw [r0_33 i hl' h2]; simp only [TC, not_true, and_false, false_iff]; omega
      · rw [e33]; simp only [TC, h10, not_false_iff, and_true]; omega
      · rw [e34]; simp only [TC, not_true, and_false, false_iff]; omega
      · rw [r35_40 i hl' h1 h2]; simp only [TC, h10, not_false_iff, and_true]; omega
      · rw [e40]; simp only [TC, not_true, and_false, false_iff]; omega
      · rw [e41]; simp only [TC, not_true, and_false, false_iff]; omega
      · rw [e42]; simp only [TC, h10, not_false_iff, and_true]; omega
      · rw [e43]; simp only [TC, h10, not_false_iff, and_true]; omega
      · rw [e44]; simp only [TC, not_true, and_false, false_iff]; omega
      · rw [e45]; simp only [TC, h10, not_false_iff, and_true]; omega
      · rw [e46]; simp only [TC, h10, not_false_iff, and_true]; omega
      · rw [e47]; simp only [TC, not_true, and_false, false_iff]; omega
      · rw [r48_58 i hl' h1 h2]; simp only [TC, h10, not_false_iff, and_true]; omega
      · rw [r58_65 i hl' h1 h2]; simp only [TC, not_true, and_false, false_iff]; omega
      · rw [r65_91 i hl' h1 h2]; simp only [TC, h10, not_false_iff, and_true]; omega
      · rw [e91]; simp only [TC, not_true, and_false, false_iff]; omega
      · rw [e92]; simp only [TC, not_true, and_false, false_iff]; omega
      · rw [e93]; simp only [TC, not_true, and_false, false_iff]; omega
      · rw [r94_123 i hl' h1 h2]; simp only [TC, h10, not_false_iff, and_true]; omega
      · rw [e123]; simp only [TC, not_true, and_false, false_iff]; omega
      · rw [e124]; simp only [TC, h10, not_false_iff, and_true]; omega
      · rw [e125]; simp only [TC, not_true, and_false, false_iff]; omega
      · rw [e126]; simp only [TC, h10, not_false_iff, and_true]; omega
      · rw [e127]; simp only [TC, not_true, and_false, false_iff]; omega
    · refine ⟨fun z => absurd z.1 (by rw [e128]; exact hl), fun z => ?_⟩
      simp only [TC] at z; omega
  obtain ⟨n, o, h1, h2, h3, _, L, rfl, ⟨rfl, N⟩, hq⟩ := rm0 (Z := s) hw i0 i1 s.heap s.heap.size aT g S_T A_T hG l tables_1 p e ha hc hk s m _ below hf ((Spec.applies_iff_loose hf).mp happ).1 ⟨rfl, State.Warmed39.refl s, rfl⟩ trivial
  refine ⟨n, _, h1, h2, h3, hpost _ _ _ _ _ _ ⟨Cond.after_iff.mpr rfl, Cond.after_iff.mpr (eq_i res_at (Term.int_eval (1)) rfl), trivial⟩ ⟨hq.1, hq.2.1, (hq.2.2.sift fun y hy => Or.inr (N y hy)).mono (by decide) (by decide)⟩⟩
theorem main_1_1 : Claimed_1_1 := comes_1 fun _ _ _ _ _ _ h hF => ⟨h.1, hF⟩
theorem main_1_2 : Claimed_1_2 := comes_1 fun _ _ _ _ _ _ h hF => ⟨h.2.1, hF⟩
end Jvm.Pilot.@@N@@
namespace Jvm.Pilot.@@N@@
open Jvm Jvm.ClassFile Sem Op Lib Jvm.Free Jvm.Stand Jvm.Pilot.@@N@@.Jvm.D
/-! MADE BY PROGRAM (witnessworld.py) out of the Statement's table words and the real class files: 11 classes; the members and pool entries that the words name. The judged class is class 1, her method 2. -/
namespace start1
open Jvm.ClassFile
def u (s : String) : CpInfo := .utf8 (stringToUtf16 s)
/-- a pool by its gaps: so many unusable entries, then the entry; so many at the end -/
def gap : Nat → List CpInfo → List CpInfo
  | 0, r => r
  | n + 1, r => .unusable :: gap n r
def poolList (es : List (Nat × CpInfo)) (last : Nat) : List CpInfo := es.foldr (fun e r => gap e.1 (e.2 :: r)) (gap last [])
def pool (es : List (Nat × CpInfo)) (last : Nat) : Array CpInfo := ⟨poolList es last⟩
def fileOf (pool : Array CpInfo) (this : Nat) (attrs : Array Attribute := #[]) (ms : Array MethodInfo := #[]) (fl : Nat := 33) (sup : Nat := 0) (ifs : Array Nat := #[]) (fds : Array FieldInfo := #[]) : ClassFile where
  minorVersion := 0
  majorVersion := 65
  constantPool := pool
  accessFlags := fl
  thisClass := this
  superClass := sup
  interfaces := ifs
  fields := fds
  methods := ms
  attributes := attrs
def plain (name : String) (sup : Option ClassId) : Class where
  name := name
  kind := .ordinary
  loader := none
  accessFlags := 33
  super := sup
  interfaces := #[]
  cf := none
  fields := #[]
  methods := #[]
  instanceTypes := #[]
  staticTypes := #[]
  resolved := #[]
  callSites := []
  init := .initialized
  statics := none
  mirror := none

def pool0 : Array CpInfo := pool [(5, u "<init>"), (0, u "()V"), (1, .class_ 10), (1, u "java/lang/Object")] 113

def k0m0 : Method := { name := "<init>", desc := "()V", sig := { parameters := [], returnType := none }, accessFlags := 1, code := none }
/-- java/lang/Object -/
def k0 : Class := { plain "java/lang/Object" none with
  accessFlags := 33
  interfaces := #[]
  cf := some (fileOf pool0 8 #[] #[{ accessFlags := 1, nameIndex := 5, descriptorIndex := 6, attributes := #[] }] 33 0 #[] #[])
  fields := #[]
  methods := #[k0m0]
  instanceTypes := #[]
  staticTypes := #[]
  resolved := Array.replicate 124 none
  statics := none }

def pool1 : Array CpInfo := pool [(2, .class_ 4), (1, u "java/lang/Object"), (0, u "<init>"), (0, u "()V"), (0, .methodref 8 9), (0, .class_ 10), (0, .nameAndType 11 12), (0, u "com/example/cordon/cordon/http/HttpHead"), (0, u "isTokenChar"), (0, u "(C)Z"), (0, .methodref 14 15), (0, .class_ 16), (0, .nameAndType 17 12), (0, u "com/example/cordon/cordon/http/HttpHeadIsTokenCharPinLaw"), (0, u "isTchar"), (3, u "law"), (0, u "(II)Z")] 2

def k1m0 : Method := { name := "<init>", desc := "()V", sig := { parameters := [], returnType := none }, accessFlags := 2, code := none }
def k1c1 : Code := { maxStack := 2, maxLocals := 1, code := method_2_code, exceptionTable := #[], attributes := #[] }
def k1m1 : Method := { name := "isTchar", desc := "(C)Z", sig := { parameters := [.char], returnType := some .boolean }, accessFlags := 10, code := some k1c1 }
def k1c2 : Code := { maxStack := 2, maxLocals := 3, code := code, exceptionTable := #[], attributes := #[] }
def k1m2 : Method := { name := "law", desc := "(II)Z", sig := { parameters := [.int, .int], returnType := some .boolean }, accessFlags := 9, code := some k1c2 }
/-- com/example/cordon/cordon/http/HttpHeadIsTokenCharPinLaw -/
def k1 : Class := { plain "com/example/cordon/cordon/http/HttpHeadIsTokenCharPinLaw" (some 0) with
  accessFlags := 49
  interfaces := #[]
  cf := some (fileOf pool1 14 #[] #[{ accessFlags := 2, nameIndex := 5, descriptorIndex := 6, attributes := #[] }, { accessFlags := 10, nameIndex := 17, descriptorIndex := 12, attributes := #[] }, { accessFlags := 9, nameIndex := 21, descriptorIndex := 22, attributes := #[] }] 49 2 #[] #[])
  fields := #[]
  methods := #[k1m0, k1m1, k1m2]
  instanceTypes := #[]
  staticTypes := #[]
  resolved := Array.replicate 25 none
  statics := none }

def pool2 : Array CpInfo := pool [(2, .class_ 4), (1, u "java/lang/Object"), (3, .class_ 10), (1, u "com/example/cordon/cordon/http/HttpHead"), (0, u "bytes"), (0, u "[B"), (2, u "startLine"), (0, u "Ljava/lang/String;"), (2, u "spans"), (0, u "[I"), (2, u "size"), (0, u "I"), (12, .class_ 38), (0, u "com/example/cordon/cordon/http/HttpHead$Malformed"), (34, u "isTokenChar"), (0, u "(C)Z"), (10, .fieldref 8 86), (0, .nameAndType 87 88), (0, u "TOKEN_CHARS"), (0, u "[Z"), (34, u "VERSIONS"), (0, u "Ljava/util/Set;"), (12, .class_ 138), (0, u "com/example/cordon/cordon/http/HttpHead$StatusLine"), (14, .class_ 155), (1, u "com/example/cordon/cordon/http/HttpHead$Names"), (11, u "fields"), (0, u "Ljava/util/List;"), (5, .class_ 175), (0, u "com/example/cordon/cordon/http/HttpHead$Field"), (34, u "connectionOptions"), (83, u "SPAN"), (32, .class_ 328), (0, u "com/example/cordon/cordon/http/HttpHead$Writer")] 6

def k2c0 : Code := { maxStack := 2, maxLocals := 1, code := prog_24_method_6_code, exceptionTable := #[], attributes := #[] }
def k2m0 : Method := { name := "isTokenChar", desc := "(C)Z", sig := { parameters := [.char], returnType := some .boolean }, accessFlags := 8, code := some k2c0 }
/-- com/example/cordon/cordon/http/HttpHead -/
def k2 : Class := { plain "com/example/cordon/cordon/http/HttpHead" (some 0) with
  accessFlags := 49
  interfaces := #[]
  cf := some (fileOf pool2 8 #[.nestMembers #[153, 327, 137, 174, 37]] #[{ accessFlags := 8, nameIndex := 73, descriptorIndex := 74, attributes := #[] }] 49 2 #[] #[{ accessFlags := 24, nameIndex := 123, descriptorIndex := 124, attributes := #[] }, { accessFlags := 26, nameIndex := 87, descriptorIndex := 88, attributes := #[] }, { accessFlags := 26, nameIndex := 294, descriptorIndex := 24, attributes := #[] }, { accessFlags := 18, nameIndex := 11, descriptorIndex := 12, attributes := #[] }, { accessFlags := 18, nameIndex := 15, descriptorIndex := 16, attributes := #[] }, { accessFlags := 18, nameIndex := 19, descriptorIndex := 20, attributes := #[] }, { accessFlags := 18, nameIndex := 23, descriptorIndex := 24, attributes := #[] }, { accessFlags := 2, nameIndex := 167, descriptorIndex := 168, attributes := #[] }, { accessFlags := 2, nameIndex := 210, descriptorIndex := 168, attributes := #[] }])
  fields := #[{ name := "VERSIONS", type := (.object "java/util/Set"), accessFlags := 24, slot := 0, constantValue := 0 }, { name := "TOKEN_CHARS", type := (.array .boolean), accessFlags := 26, slot := 1, constantValue := 0 }, { name := "SPAN", type := .int, accessFlags := 26, slot := 2, constantValue := 0 }, { name := "bytes", type := (.array .byte), accessFlags := 18, slot := 0, constantValue := 0 }, { name := "startLine", type := (.object "java/lang/String"), accessFlags := 18, slot := 1, constantValue := 0 }, { name := "spans", type := (.array .int), accessFlags := 18, slot := 2, constantValue := 0 }, { name := "size", type := .int, accessFlags := 18, slot := 3, constantValue := 0 }, { name := "fields", type := (.object "java/util/List"), accessFlags := 2, slot := 4, constantValue := 0 }, { name := "connectionOptions", type := (.object "java/util/List"), accessFlags := 2, slot := 5, constantValue := 0 }]
  methods := #[k2m0]
  instanceTypes := #[(.array .byte), (.object "java/lang/String"), (.array .int), .int, (.object "java/util/List"), (.object "java/util/List")]
  staticTypes := #[(.object "java/util/Set"), (.array .boolean), .int]
  resolved := Array.replicate 335 none
  statics := some 0 }

def pool3 : Array CpInfo := pool [(1, u "java/lang/Cloneable"), (0, .class_ 1), (0, u "java/lang/Object"), (0, .class_ 3)] 3

/-- java/lang/Cloneable -/
def k3 : Class := { plain "java/lang/Cloneable" (some 0) with
  accessFlags := 1537
  interfaces := #[]
  cf := some (fileOf pool3 2 #[] #[] 1537 4 #[] #[])
  fields := #[]
  methods := #[]
  instanceTypes := #[]
  staticTypes := #[]
  resolved := Array.replicate 8 none
  statics := none }

def pool4 : Array CpInfo := pool [(1, u "java/io/Serializable"), (0, .class_ 1), (0, u "java/lang/Object"), (0, .class_ 3)] 3

/-- java/io/Serializable -/
def k4 : Class := { plain "java/io/Serializable" (some 0) with
  accessFlags := 1537
  interfaces := #[]
  cf := some (fileOf pool4 2 #[] #[] 1537 4 #[] #[])
  fields := #[]
  methods := #[]
  instanceTypes := #[]
  staticTypes := #[]
  resolved := Array.replicate 8 none
  statics := none }

/-- the primitive boolean -/
def k5 : Class := { plain "boolean" none with kind := .primitive 'Z', accessFlags := 0x411 }
/-- [Z -/
def k6 : Class := { plain "[Z" (some 0) with kind := .array 5 .boolean, interfaces := #[3, 4], accessFlags := 1041 }

/-- the primitive byte -/
def k7 : Class := { plain "byte" none with kind := .primitive 'B', accessFlags := 0x411 }
/-- [B -/
def k8 : Class := { plain "[B" (some 0) with kind := .array 7 .byte, interfaces := #[3, 4], accessFlags := 1041 }

/-- the primitive int -/
def k9 : Class := { plain "int" none with kind := .primitive 'I', accessFlags := 0x411 }
/-- [I -/
def k10 : Class := { plain "[I" (some 0) with kind := .array 9 .int, interfaces := #[3, 4], accessFlags := 1041 }

def heap : Heap := #[{ cls := 2, slots := #[.null, .ref 1, .int 0], vm := .statics 2 },
  { cls := 6, slots := #[.int 0, .int 0, .int 0, .int 0, .int 0, .int 0, .int 0, .int 0, .int 0, .int 0, .int 0, .int 0, .int 0, .int 0, .int 0, .int 0, .int 0, .int 0, .int 0, .int 0, .int 0, .int 0, .int 0, .int 0, .int 0, .int 0, .int 0, .int 0, .int 0, .int 0, .int 0, .int 0, .int 0, .int 1, .int 0, .int 1, .int 1, .int 1, .int 1, .int 1, .int 0, .int 0, .int 1, .int 1, .int 0, .int 1, .int 1, .int 0, .int 1, .int 1, .int 1, .int 1, .int 1, .int 1, .int 1, .int 1, .int 1, .int 1, .int 0, .int 0, .int 0, .int 0, .int 0, .int 0, .int 0, .int 1, .int 1, .int 1, .int 1, .int 1, .int 1, .int 1, .int 1, .int 1, .int 1, .int 1, .int 1, .int 1, .int 1, .int 1, .int 1, .int 1, .int 1, .int 1, .int 1, .int 1, .int 1, .int 1, .int 1, .int 1, .int 1, .int 0, .int 0, .int 0, .int 1, .int 1, .int 1, .int 1, .int 1, .int 1, .int 1, .int 1, .int 1, .int 1, .int 1, .int 1, .int 1, .int 1, .int 1, .int 1, .int 1, .int 1, .int 1, .int 1, .int 1, .int 1, .int 1, .int 1, .int 1, .int 1, .int 1, .int 1, .int 1, .int 0, .int 1, .int 0, .int 1, .int 0], vm := .none }]
def classes : Array Class := #[k0, k1, k2, k3, k4, k5, k6, k7, k8, k9, k10]
def interned : List (Array UInt16 × Addr) := []
def slotsUsed : Nat := 131
def theMethod : MethodId := ⟨1, 2⟩
def args0 : Array Value := #[.int 5, .int 5]
def aboutOver (below : List Frame) : State where
  vm := { classes := classes, interned := interned.toArray }
  heap := heap
  slotsUsed := slotsUsed
  threads := #[{ frames := .invoking theMethod args0 :: below }]
def below0 : List Frame := [.native { method := ⟨0, 0⟩, args := #[] }]
def about1 : State := aboutOver below0
def p0 : Program := .bare "" "" ""
def e0 : Env := launch0.env 0 0 0
theorem w_frames : about1.frames = Frame.invoking theMethod args0 :: below0 := rfl
set_option maxRecDepth 65536 in
theorem w_args : argsFit about1.vm theMethod args0 = true := by decide +kernel
set_option maxRecDepth 65536 in
theorem w_heap : heapFits about1 = true := by decide +kernel
set_option maxRecDepth 65536 in
theorem w_runnable : about1.curStatus? = some .runnable := by decide +kernel
set_option maxRecDepth 65536 in
theorem w_alone : about1.alone = true := by decide +kernel
set_option maxRecDepth 65536 in
theorem w_named : about1.methodNamed? x = some theMethod := by decide +kernel
set_option maxRecDepth 65536 in
theorem w_hears : about1.hears theMethod below0 = true := by decide +kernel
set_option maxRecDepth 65536 in
theorem w_ripe : about1.ripe theMethod args0 below0 = true := by decide +kernel
theorem w_running : about1.status = .running := rfl
set_option maxRecDepth 65536 in
theorem w_room : about1.hasRoom e0.platform room_1 = true :=
  launch0.hasRoom_least _ room_1 (by decide +kernel) (by decide +kernel) (by decide +kernel) (by decide +kernel) (by decide +kernel) (by decide +kernel)
theorem allAtoms_all (ts : List Jvm.Cond) (a : Array Jvm.Value) (st : Jvm.State) : (allAtoms ts).before a st = ts.all (fun c => c.before a st) := by
  induction ts with
  | nil => rfl
  | cons c t ih =>
    show (Jvm.Cond.and c (allAtoms t)).before a st = _
    rw [Jvm.Cond.before_and, ih, List.all_cons]
def words1 : List Jvm.Cond := Jvm.Cond.code x code maxLocals ret :: tables_1
/-- a 'code' word, met by the world's own term for the bytes: nothing is compared byte by byte -/
theorem code_word {y : MethodName} {bytes : ByteArray} {mx : Nat} {rt : Option FieldType} {a : Array Value} {s : State} {m : MethodId} {meth : Method} {c : Code} (h1 : s.methodNamed? y = some m) (h2 : s.vm.method? m = some meth) (h3 : meth.code = some c) (h4 : c.code = bytes)
    (h5 : (c.maxLocals == mx && c.exceptionTable.isEmpty && decide (c.maxStack ≤ mostOperands) && decide (meth.sig.returnType = rt) && !meth.locks && decide (parseMethodDescriptor y.desc = some meth.sig)) = true) : (Jvm.Cond.code y bytes mx rt).before a s = true := by
  simp only [Bool.and_eq_true, beq_iff_eq, Bool.not_eq_true', decide_eq_true_eq] at h5
  obtain ⟨⟨⟨⟨⟨g1, g2⟩, g3⟩, g4⟩, g5⟩, g6⟩ := h5
  simp [Cond.before, Cond.holds, Cond.value, h1, h2, h3, h4, g1, g2, g3, g4, g5, g6]
def isCode : Jvm.Cond → Bool
  | .code _ _ _ _ => true
  | _ => false
theorem all_split {L : List Jvm.Cond} {P : Jvm.Cond → Bool} (h1 : L.all (fun c => isCode c || P c) = true) (h2 : ∀ c ∈ L.filter isCode, P c = true) : L.all P = true := by
  refine List.all_eq_true.mpr fun c hc => ?_
  have h := List.all_eq_true.mp h1 c hc
  rcases Bool.eq_false_or_eq_true (isCode c) with hi | hi
  · exact h2 c (List.mem_filter.mpr ⟨hc, hi⟩)
  · simpa [hi] using h
set_option maxRecDepth 65536 in
theorem w_c0 : (Jvm.Cond.code x code maxLocals ret).before args0 about1 = true := code_word (m := ⟨1, 2⟩) (meth := k1m2) (c := k1c2) (by decide +kernel) rfl rfl rfl (by decide +kernel)
set_option maxRecDepth 65536 in
theorem w_c1 : (Jvm.Cond.code ({ cls := "com/example/cordon/cordon/http/HttpHead", name := "isTokenChar", desc := "(C)Z" } : Jvm.MethodName) prog_24_method_6_code (1 : Nat) (Option.some Jvm.ClassFile.FieldType.boolean)).before args0 about1 = true := code_word (m := ⟨2, 0⟩) (meth := k2m0) (c := k2c0) (by decide +kernel) rfl rfl rfl (by decide +kernel)
set_option maxRecDepth 65536 in
theorem w_c2 : (Jvm.Cond.code ({ cls := "com/example/cordon/cordon/http/HttpHeadIsTokenCharPinLaw", name := "isTchar", desc := "(C)Z" } : Jvm.MethodName) method_2_code (1 : Nat) (Option.some Jvm.ClassFile.FieldType.boolean)).before args0 about1 = true := code_word (m := ⟨1, 1⟩) (meth := k1m1) (c := k1c1) (by decide +kernel) rfl rfl rfl (by decide +kernel)
def codes1 : List Jvm.Cond := [Jvm.Cond.code x code maxLocals ret, Jvm.Cond.code ({ cls := "com/example/cordon/cordon/http/HttpHead", name := "isTokenChar", desc := "(C)Z" } : Jvm.MethodName) prog_24_method_6_code (1 : Nat) (Option.some Jvm.ClassFile.FieldType.boolean), Jvm.Cond.code ({ cls := "com/example/cordon/cordon/http/HttpHeadIsTokenCharPinLaw", name := "isTchar", desc := "(C)Z" } : Jvm.MethodName) method_2_code (1 : Nat) (Option.some Jvm.ClassFile.FieldType.boolean)]
set_option maxRecDepth 65536 in
theorem codes_eq : words1.filter isCode = codes1 := rfl
theorem w_codes : ∀ c ∈ words1.filter isCode, c.before args0 about1 = true := by
  rw [codes_eq]
  intro c hc
  simp only [codes1, List.mem_cons, List.not_mem_nil, or_false] at hc
  rcases hc with rfl | rfl | rfl
  · exact w_c0
  · exact w_c1
  · exact w_c2
set_option maxRecDepth 65536 in
theorem w_t1 : words1.all (fun c => isCode c || c.before args0 about1) = true := by decide +kernel
theorem w_tables : (allAtoms (Jvm.Cond.code x code maxLocals ret :: tables_1)).before args0 about1 = true := by
  rw [allAtoms_all]
  show words1.all (fun c => c.before args0 about1) = true
  refine all_split ?_ w_codes
  rw [w_t1]
set_option maxRecDepth 65536 in
theorem w_case : (Jvm.Cond.and given_1 narrow_1).before args0 about1 = true := by decide +kernel
theorem w_applies : (headSpec (Jvm.Cond.code x code maxLocals ret :: tables_1) room_1).applies x e0.platform about1 = true :=
  (Spec.applies_iff w_frames).mpr ⟨w_running, w_runnable, w_alone, w_named, w_hears, w_ripe, w_room, w_tables⟩
theorem atStart : AtStart classFile x code maxLocals ret World_1 tables_1 room_1 Calls_1 rest_1 Pre_1 launch0 p0 e0 about1 theMethod args0 below0 :=
  ⟨lists_1, trivial, launch0.admits_env _ _ _, launch0.least_env, fairChoices_fair.cas, fairChoices_fair.clock, w_frames, w_args, w_heap, w_applies, trivial, trivial, w_case⟩
end start1
theorem witness_1 : WitnessClaimed_1 := ⟨start1.p0, start1.e0, start1.about1, start1.theMethod, start1.args0, start1.below0, start1.atStart⟩
end Jvm.Pilot.@@N@@

import JvmDerived
import JvmDerived.Pilot.@@N@@Statement
import JvmDerived.Pilot.@@N@@Code
set_option linter.unusedVariables false
set_option linter.unusedSimpArgs false
namespace Jvm.WK
open Jvm Sem ClassFile Op Lib Jvm.Free Jvm.Stand Jvm.LawKit Jvm.RoadKit
/-- the fixed surroundings of a walk: program, launch, environment, first state, method, arguments, frames below, method record, code record -/
abbrev Cx := Program × Launch × Env × State × MethodId × Array Value × List Frame × Method × Code
/-- FROM HERE THE BODY RUNS TO ITS RETURN, AND WHAT IT LEAVES MEETS Q: h the heap here, pc, Ls, st the top frame; cl, sl: what was made so far; only cells from n0 on are written. -/
def WP (C : Cx) (Z : State) (code : ByteArray) (ml : Nat) (own : String) (rt : Option FieldType) (nm : String) (R : Room) (n0 : Nat) (Q : Option Value → Heap → Prop) (cl sl : Nat) (h : Heap) (pc : Nat) (Ls : Array Slot) (st : List Value) : Prop :=
  C.1.tables.exec = Jvm.exec → C.2.2.2.2.2.2.2.2.code = code → C.2.2.2.2.2.2.2.2.maxLocals = ml → C.2.2.2.1.vm.findClass own = some C.2.2.2.2.1.cls → Z.Warmed39 C.2.2.2.1.vm → C.2.2.2.2.2.2.2.1.sig.returnType = rt → C.2.2.2.2.2.2.2.1.locks = false → C.2.2.2.2.2.2.2.1.name = nm →
  ∀ (T : State) (locs : List Loc), Stand C.1 C.2.1 C.2.2.1 R C.2.2.2.1 C.2.2.2.2.1 C.2.2.2.2.2.1 C.2.2.2.2.2.2.1 C.2.2.2.2.2.2.2.1 C.2.2.2.2.2.2.2.2 T locs cl sl → T.heap = h → Fr n0 locs →
    ∃ (s₂ : State) (v : Option Value) (L : List Loc), Steps C.1.tables C.2.2.1 C.2.2.2.2.2.2.1 (T.setTop (mkF C.2.2.2.2.1 pc Ls st)) s₂ ∧ s₂.status = .running ∧ Ended s₂ C.2.2.2.2.2.2.1 (.returned v) ∧ Q v s₂.heap ∧ Fr n0 L ∧ FrameEnd C.2.2.2.1 (.returned v) s₂ L R.cells R.slots
/-- WHAT A METHOD DOES FROM THE HEAP h0 WITH THE ARGUMENTS a -/
def Does (l : Launch) (Z : State) (y : MethodName) (code : ByteArray) (ml : Nat) (rt : Option FieldType) (R : Room) (n0 : Nat) (as' : Array Value) (h0 : Heap) (Q : Option Value → Heap → Prop) : Prop :=
  ∀ ws : List Jvm.Cond, MetFree l y (head1 (Jvm.Cond.code y code ml rt :: ws) R) (fun a U => a = as' ∧ Z.Warmed39 U.vm ∧ U.heap = h0) (fun _ _ _ _ _ => True)
    (fun _ U o U' => ∃ v L, o = .returned v ∧ (Q v U'.heap ∧ Fr n0 L) ∧ FrameEnd U o U' L R.cells R.slots)
theorem Does.of_wp {l : Launch} {Z : State} {y : MethodName} {code : ByteArray} {ml : Nat} {rt : Option FieldType} {R : Room} {n0 : Nat} {as' : Array Value} {h0 : Heap} {Q : Option Value → Heap → Prop} (hpl : plainFor y = true) {Ls : Array Slot} (hef : ∀ m, entryFrame m as' ml = mkF m 0 Ls [])
    (hW : ∀ C : Cx, WP C Z code ml y.cls rt y.name R n0 Q 0 0 h0 0 Ls []) : Does l Z y code ml rt R n0 as' h0 Q := by
  intro ws
  refine MetFree.of_bodySF hpl hisR ?_
  intro p e s m args below meth c s₁ Bd hml0 hP hK
  obtain ⟨rfl, hZ, hh⟩ := hP
  have X0 : Stand p l e R s m args below meth c s₁ [] 0 0 := Stand.of_body Bd
  have e0 : s₁.heap = h0 := by rw [← hh, Bd.state]; rfl
  obtain ⟨s₂, v, L, h1, h2, h3, h4, h5, h6⟩ := hW (p, l, e, s, m, args, below, meth, c) Bd.exec Bd.bytes hml0 (findClass_of_methodNamed Bd.named) hZ Bd.returns Bd.notSynchronized (name_of_methodNamed Bd.named Bd.method).1 s₁ [] X0 e0 (Fr.nil n0)
  exact ⟨s₂, _, castTop (hef m) h1, h2, h3, v, L, rfl, ⟨h4, h5⟩, h6⟩
section Rules
variable {C : Cx} {Z : State} {code : ByteArray} {ml : Nat} {own : String} {rt : Option FieldType} {nm : String} {R : Room} {n0 : Nat} {Q : Option Value → Heap → Prop} {cl sl : Nat} {h : Heap} {pc pc' : Nat} {Ls Ls' : Array Slot} {st st' : List Value} {a0 : Array Value}
theorem WP.step {cl' sl' : Nat} {h' : Heap} (f : ∀ {p : Program} {l : Launch} {e : Env} {s : State} {m : MethodId} {args : Array Value} {below : List Frame} {meth : Method} {c : Code} {T : State} {locs : List Loc}, Stand p l e R s m args below meth c T locs cl sl → p.tables.exec = Jvm.exec → c.code = code → c.maxLocals = ml → s.vm.findClass own = some m.cls → Z.Warmed39 s.vm → meth.name = nm → T.heap = h → Fr n0 locs →
      ∃ T' locs', Stand p l e R s m args below meth c T' locs' cl' sl' ∧ T'.heap = h' ∧ Fr n0 locs' ∧ ∀ t, Steps p.tables e below (T'.setTop (mkF m pc' Ls' st')) t → Steps p.tables e below (T.setTop (mkF m pc Ls st)) t)
    (hr : WP C Z code ml own rt nm R n0 Q cl' sl' h' pc' Ls' st') : WP C Z code ml own rt nm R n0 Q cl sl h pc Ls st := by
  intro k1 k2 k3 k4 k5 k6 k7 k8 T locs X e N
  obtain ⟨T', locs', X', e', N', k⟩ := f X k1 k2 k3 k4 k5 k8 e N
  obtain ⟨s₂, v, L, h1, h2⟩ := hr k1 k2 k3 k4 k5 k6 k7 k8 T' locs' X' e' N'
  exact ⟨s₂, v, L, k _ h1, h2⟩
theorem WP.pure (f : ∀ {p : Program} {l : Launch} {e : Env} {s : State} {m : MethodId} {args : Array Value} {below : List Frame} {meth : Method} {c : Code} {T : State} {locs : List Loc}, Stand p l e R s m args below meth c T locs cl sl → p.tables.exec = Jvm.exec → c.code = code → s.vm.findClass own = some m.cls → Z.Warmed39 s.vm → T.heap = h →
      ∀ t, Steps p.tables e below (T.setTop (mkF m pc' Ls' st')) t → Steps p.tables e below (T.setTop (mkF m pc Ls st)) t)
    (hr : WP C Z code ml own rt nm R n0 Q cl sl h pc' Ls' st') : WP C Z code ml own rt nm R n0 Q cl sl h pc Ls st :=
  WP.step (fun X hx hc _ ho hZ _ e N => ⟨_, _, X, e, N, f X hx hc ho hZ e⟩) hr
/-- the heap's name may be turned -/
theorem WP.cast {h' : Heap} (e : h = h') (hr : WP C Z code ml own rt nm R n0 Q cl sl h' pc Ls st) : WP C Z code ml own rt nm R n0 Q cl sl h pc Ls st := e ▸ hr
theorem WP.castS (e : st = st') (hr : WP C Z code ml own rt nm R n0 Q cl sl h pc Ls st') : WP C Z code ml own rt nm R n0 Q cl sl h pc Ls st := e ▸ hr
theorem WP.castL (e : Ls = Ls') (hr : WP C Z code ml own rt nm R n0 Q cl sl h pc Ls' st) : WP C Z code ml own rt nm R n0 Q cl sl h pc Ls st := e ▸ hr
theorem WP.iloadN {k : Fin 4} {v : Int32} (hd : decode code pc = .ok (.iload_n k, 1)) (hp : pc + 1 = pc') (hl : Ls[k.val]? = some (.val (.int v))) (hr : WP C Z code ml own rt nm R n0 Q cl sl h pc' Ls (.int v :: st)) : WP C Z code ml own rt nm R n0 Q cl sl h pc Ls st := by
  subst hp
  exact hr.pure fun X hx hby hown hZ eT t q => XS.iloadN X.here hx rfl (hb hby hd) hl q
theorem WP.iload {k : Nat} {v : Int32} (hd : decode code pc = .ok (.iload k, 2)) (hp : pc + 2 = pc') (hl : Ls[k]? = some (.val (.int v))) (hr : WP C Z code ml own rt nm R n0 Q cl sl h pc' Ls (.int v :: st)) : WP C Z code ml own rt nm R n0 Q cl sl h pc Ls st := by
  subst hp
  exact hr.pure fun X hx hby hown hZ eT t q => XS.iload X.here hx rfl (hb hby hd) hl q
theorem WP.lloadN {k : Fin 4} {v : Int64} (hd : decode code pc = .ok (.lload_n k, 1)) (hp : pc + 1 = pc') (hl : Ls[k.val]? = some (.val (.long v))) (hr : WP C Z code ml own rt nm R n0 Q cl sl h pc' Ls (.long v :: st)) : WP C Z code ml own rt nm R n0 Q cl sl h pc Ls st := by
  subst hp
  exact hr.pure fun X hx hby hown hZ eT t q => XS.lloadN X.here hx rfl (hb hby hd) hl q
theorem WP.lload {k : Nat} {v : Int64} (hd : decode code pc = .ok (.lload k, 2)) (hp : pc + 2 = pc') (hl : Ls[k]? = some (.val (.long v))) (hr : WP C Z code ml own rt nm R n0 Q cl sl h pc' Ls (.long v :: st)) : WP C Z code ml own rt nm R n0 Q cl sl h pc Ls st := by
  subst hp
  exact hr.pure fun X hx hby hown hZ eT t q => XS.lload X.here hx rfl (hb hby hd) hl q
theorem WP.dloadN {k : Fin 4} {v : UInt64} (hd : decode code pc = .ok (.dload_n k, 1)) (hp : pc + 1 = pc') (hl : Ls[k.val]? = some (.val (.double v))) (hr : WP C Z code ml own rt nm R n0 Q cl sl h pc' Ls (.double v :: st)) : WP C Z code ml own rt nm R n0 Q cl sl h pc Ls st := by
  subst hp
  exact hr.pure fun X hx hby hown hZ eT t q => XS.dloadN X.here hx rfl (hb hby hd) hl q
theorem WP.dload {k : Nat} {v : UInt64} (hd : decode code pc = .ok (.dload k, 2)) (hp : pc + 2 = pc') (hl : Ls[k]? = some (.val (.double v))) (hr : WP C Z code ml own rt nm R n0 Q cl sl h pc' Ls (.double v :: st)) : WP C Z code ml own rt nm R n0 Q cl sl h pc Ls st := by
  subst hp
  exact hr.pure fun X hx hby hown hZ eT t q => XS.dload X.here hx rfl (hb hby hd) hl q
theorem WP.aloadN {k : Fin 4} {v : Value} (hd : decode code pc = .ok (.aload_n k, 1)) (hp : pc + 1 = pc') (hl : Ls[k.val]? = some (.val v)) (hv : v.isRef = true) (hr : WP C Z code ml own rt nm R n0 Q cl sl h pc' Ls (v :: st)) : WP C Z code ml own rt nm R n0 Q cl sl h pc Ls st := by
  subst hp
  exact hr.pure fun X hx hby hown hZ eT t q => XS.aloadN X.here hx rfl (hb hby hd) hl hv q
theorem WP.aload {k : Nat} {v : Value} (hd : decode code pc = .ok (.aload k, 2)) (hp : pc + 2 = pc') (hl : Ls[k]? = some (.val v)) (hv : v.isRef = true) (hr : WP C Z code ml own rt nm R n0 Q cl sl h pc' Ls (v :: st)) : WP C Z code ml own rt nm R n0 Q cl sl h pc Ls st := by
  subst hp
  exact hr.pure fun X hx hby hown hZ eT t q => XS.aload X.here hx rfl (hb hby hd) hl hv q
theorem WP.istoreN {k : Fin 4} {v : Int32} (hd : decode code pc = .ok (.istore_n k, 1)) (hp : pc + 1 = pc') (hl : storeLocals Ls k.val (.int v) = some Ls') (hr : WP C Z code ml own rt nm R n0 Q cl sl h pc' Ls' st) : WP C Z code ml own rt nm R n0 Q cl sl h pc Ls (.int v :: st) := by
  subst hp
  exact hr.pure fun X hx hby hown hZ eT t q => XS.istoreN X.here hx rfl (hb hby hd) rfl hl q
theorem WP.istore {k : Nat} {v : Int32} (hd : decode code pc = .ok (.istore k, 2)) (hp : pc + 2 = pc') (hl : storeLocals Ls k (.int v) = some Ls') (hr : WP C Z code ml own rt nm R n0 Q cl sl h pc' Ls' st) : WP C Z code ml own rt nm R n0 Q cl sl h pc Ls (.int v :: st) := by
  subst hp
  exact hr.pure fun X hx hby hown hZ eT t q => XS.istore X.here hx rfl (hb hby hd) rfl hl q
theorem WP.lstoreN {k : Fin 4} {v : Int64} (hd : decode code pc = .ok (.lstore_n k, 1)) (hp : pc + 1 = pc') (hl : storeLocals Ls k.val (.long v) = some Ls') (hr : WP C Z code ml own rt nm R n0 Q cl sl h pc' Ls' st) : WP C Z code ml own rt nm R n0 Q cl sl h pc Ls (.long v :: st) := by
  subst hp
  exact hr.pure fun X hx hby hown hZ eT t q => XS.lstoreN X.here hx rfl (hb hby hd) rfl hl q
theorem WP.lstore {k : Nat} {v : Int64} (hd : decode code pc = .ok (.lstore k, 2)) (hp : pc + 2 = pc') (hl : storeLocals Ls k (.long v) = some Ls') (hr : WP C Z code ml own rt nm R n0 Q cl sl h pc' Ls' st) : WP C Z code ml own rt nm R n0 Q cl sl h pc Ls (.long v :: st) := by
  subst hp
  exact hr.pure fun X hx hby hown hZ eT t q => XS.lstore X.here hx rfl (hb hby hd) rfl hl q
theorem WP.dstoreN {k : Fin 4} {v : UInt64} (hd : decode code pc = .ok (.dstore_n k, 1)) (hp : pc + 1 = pc') (hl : storeLocals Ls k.val (.double v) = some Ls') (hr : WP C Z code ml own rt nm R n0 Q cl sl h pc' Ls' st) : WP C Z code ml own rt nm R n0 Q cl sl h pc Ls (.double v :: st) := by
  subst hp
  exact hr.pure fun X hx hby hown hZ eT t q => XS.dstoreN X.here hx rfl (hb hby hd) rfl hl q
theorem WP.dstore {k : Nat} {v : UInt64} (hd : decode code pc = .ok (.dstore k, 2)) (hp : pc + 2 = pc') (hl : storeLocals Ls k (.double v) = some Ls') (hr : WP C Z code ml own rt nm R n0 Q cl sl h pc' Ls' st) : WP C Z code ml own rt nm R n0 Q cl sl h pc Ls (.double v :: st) := by
  subst hp
  exact hr.pure fun X hx hby hown hZ eT t q => XS.dstore X.here hx rfl (hb hby hd) rfl hl q
theorem WP.astoreN {k : Fin 4} {v : Value} (hd : decode code pc = .ok (.astore_n k, 1)) (hp : pc + 1 = pc') (hv : v.isRef = true) (hl : storeLocals Ls k.val v = some Ls') (hr : WP C Z code ml own rt nm R n0 Q cl sl h pc' Ls' st) : WP C Z code ml own rt nm R n0 Q cl sl h pc Ls (v :: st) := by
  subst hp
  exact hr.pure fun X hx hby hown hZ eT t q => XS.astoreN X.here hx rfl (hb hby hd) rfl hv hl q
theorem WP.astore {k : Nat} {v : Value} (hd : decode code pc = .ok (.astore k, 2)) (hp : pc + 2 = pc') (hv : v.isRef = true) (hl : storeLocals Ls k v = some Ls') (hr : WP C Z code ml own rt nm R n0 Q cl sl h pc' Ls' st) : WP C Z code ml own rt nm R n0 Q cl sl h pc Ls (v :: st) := by
  subst hp
  exact hr.pure fun X hx hby hown hZ eT t q => XS.astore X.here hx rfl (hb hby hd) rfl hv hl q
theorem WP.iconst {i : Int} {z : Int32} (hd : decode code pc = .ok (.iconst i, 1)) (hp : pc + 1 = pc') (hz : Int32.ofInt i = z) (hr : WP C Z code ml own rt nm R n0 Q cl sl h pc' Ls (.int z :: st)) : WP C Z code ml own rt nm R n0 Q cl sl h pc Ls st := by
  subst hp
  subst hz
  exact hr.pure fun X hx hby hown hZ eT t q => XS.iconst X.here hx rfl (hb hby hd) q
theorem WP.bipush {i : Int} {z : Int32} (hd : decode code pc = .ok (.bipush i, 2)) (hp : pc + 2 = pc') (hz : (Int8.ofInt i).toInt32 = z) (hr : WP C Z code ml own rt nm R n0 Q cl sl h pc' Ls (.int z :: st)) : WP C Z code ml own rt nm R n0 Q cl sl h pc Ls st := by
  subst hp
  subst hz
  exact hr.pure fun X hx hby hown hZ eT t q => XS.bipush X.here hx rfl (hb hby hd) q
theorem WP.sipush {i : Int} {z : Int32} (hd : decode code pc = .ok (.sipush i, 3)) (hp : pc + 3 = pc') (hz : (Int16.ofInt i).toInt32 = z) (hr : WP C Z code ml own rt nm R n0 Q cl sl h pc' Ls (.int z :: st)) : WP C Z code ml own rt nm R n0 Q cl sl h pc Ls st := by
  subst hp
  subst hz
  exact hr.pure fun X hx hby hown hZ eT t q => XS.sipush X.here hx rfl (hb hby hd) q
theorem WP.lconst {k : Fin 2} {z : Int64} (hd : decode code pc = .ok (.lconst k, 1)) (hp : pc + 1 = pc') (hz : Int64.ofNat k = z) (hr : WP C Z code ml own rt nm R n0 Q cl sl h pc' Ls (.long z :: st)) : WP C Z code ml own rt nm R n0 Q cl sl h pc Ls st := by
  subst hp
  subst hz
  exact hr.pure fun X hx hby hown hZ eT t q => XS.lconst X.here hx rfl (hb hby hd) q
theorem WP.aconstNull  (hd : decode code pc = .ok (.aconst_null, 1)) (hp : pc + 1 = pc') (hr : WP C Z code ml own rt nm R n0 Q cl sl h pc' Ls (.null :: st)) : WP C Z code ml own rt nm R n0 Q cl sl h pc Ls st := by
  subst hp
  exact hr.pure fun X hx hby hown hZ eT t q => XS.aconstNull X.here hx rfl (hb hby hd) q
theorem WP.ldcI {i : Nat} {v : Int32} (hd : decode code pc = .ok (.ldc i, 2)) (hp : pc + 2 = pc') (w : (Jvm.Cond.constant own i v).before a0 Z = true) (hr : WP C Z code ml own rt nm R n0 Q cl sl h pc' Ls (.int v :: st)) : WP C Z code ml own rt nm R n0 Q cl sl h pc Ls st := by
  subst hp
  exact hr.pure fun X hx hby hown hZ eT t q => X.ldcInt hx hown (mvT hZ w) (g := mkF _ pc Ls st) rfl (hb hby hd) t q
theorem WP.ldcWI {i : Nat} {v : Int32} (hd : decode code pc = .ok (.ldc_w i, 3)) (hp : pc + 3 = pc') (w : (Jvm.Cond.constant own i v).before a0 Z = true) (hr : WP C Z code ml own rt nm R n0 Q cl sl h pc' Ls (.int v :: st)) : WP C Z code ml own rt nm R n0 Q cl sl h pc Ls st := by
  subst hp
  exact hr.pure fun X hx hby hown hZ eT t q => X.ldcWInt hx hown (mvT hZ w) (g := mkF _ pc Ls st) rfl (hb hby hd) t q
theorem WP.ldc2J {i : Nat} {v : Int64} (hd : decode code pc = .ok (.ldc2_w i, 3)) (hp : pc + 3 = pc') (w : (Jvm.Cond.constantLong own i v).before a0 Z = true) (hr : WP C Z code ml own rt nm R n0 Q cl sl h pc' Ls (.long v :: st)) : WP C Z code ml own rt nm R n0 Q cl sl h pc Ls st := by
  subst hp
  exact hr.pure fun X hx hby hown hZ eT t q => X.ldc2Long hx hown (mvT hZ w) (g := mkF _ pc Ls st) rfl (hb hby hd) t q
theorem WP.iadd {x y : Int32} (hd : decode code pc = .ok (.iadd, 1)) (hp : pc + 1 = pc') (hr : WP C Z code ml own rt nm R n0 Q cl sl h pc' Ls (.int (x + y) :: st)) : WP C Z code ml own rt nm R n0 Q cl sl h pc Ls (.int y :: .int x :: st) := by
  subst hp
  exact hr.pure fun X hx hby hown hZ eT t q => XS.iadd X.here hx rfl (hb hby hd) rfl q
theorem WP.isub {x y : Int32} (hd : decode code pc = .ok (.isub, 1)) (hp : pc + 1 = pc') (hr : WP C Z code ml own rt nm R n0 Q cl sl h pc' Ls (.int (x - y) :: st)) : WP C Z code ml own rt nm R n0 Q cl sl h pc Ls (.int y :: .int x :: st) := by
  subst hp
  exact hr.pure fun X hx hby hown hZ eT t q => XS.isub X.here hx rfl (hb hby hd) rfl q
theorem WP.imul {x y : Int32} (hd : decode code pc = .ok (.imul, 1)) (hp : pc + 1 = pc') (hr : WP C Z code ml own rt nm R n0 Q cl sl h pc' Ls (.int (x * y) :: st)) : WP C Z code ml own rt nm R n0 Q cl sl h pc Ls (.int y :: .int x :: st) := by
  subst hp
  exact hr.pure fun X hx hby hown hZ eT t q => XS.imul X.here hx rfl (hb hby hd) rfl q
theorem WP.iand {x y : Int32} (hd : decode code pc = .ok (.iand, 1)) (hp : pc + 1 = pc') (hr : WP C Z code ml own rt nm R n0 Q cl sl h pc' Ls (.int (x &&& y) :: st)) : WP C Z code ml own rt nm R n0 Q cl sl h pc Ls (.int y :: .int x :: st) := by
  subst hp
  exact hr.pure fun X hx hby hown hZ eT t q => XS.iand X.here hx rfl (hb hby hd) rfl q
theorem WP.ior {x y : Int32} (hd : decode code pc = .ok (.ior, 1)) (hp : pc + 1 = pc') (hr : WP C Z code ml own rt nm R n0 Q cl sl h pc' Ls (.int (x ||| y) :: st)) : WP C Z code ml own rt nm R n0 Q cl sl h pc Ls (.int y :: .int x :: st) := by
  subst hp
  exact hr.pure fun X hx hby hown hZ eT t q => XS.ior X.here hx rfl (hb hby hd) rfl q
theorem WP.ixor {x y : Int32} (hd : decode code pc = .ok (.ixor, 1)) (hp : pc + 1 = pc') (hr : WP C Z code ml own rt nm R n0 Q cl sl h pc' Ls (.int (x ^^^ y) :: st)) : WP C Z code ml own rt nm R n0 Q cl sl h pc Ls (.int y :: .int x :: st) := by
  subst hp
  exact hr.pure fun X hx hby hown hZ eT t q => XS.ixor X.here hx rfl (hb hby hd) rfl q
theorem WP.ishl {x y : Int32} (hd : decode code pc = .ok (.ishl, 1)) (hp : pc + 1 = pc') (hr : WP C Z code ml own rt nm R n0 Q cl sl h pc' Ls (.int (x <<< (y &&& 31)) :: st)) : WP C Z code ml own rt nm R n0 Q cl sl h pc Ls (.int y :: .int x :: st) := by
  subst hp
  exact hr.pure fun X hx hby hown hZ eT t q => XS.ishl X.here hx rfl (hb hby hd) rfl q
theorem WP.ishr {x y : Int32} (hd : decode code pc = .ok (.ishr, 1)) (hp : pc + 1 = pc') (hr : WP C Z code ml own rt nm R n0 Q cl sl h pc' Ls (.int (x >>> (y &&& 31)) :: st)) : WP C Z code ml own rt nm R n0 Q cl sl h pc Ls (.int y :: .int x :: st) := by
  subst hp
  exact hr.pure fun X hx hby hown hZ eT t q => XS.ishr X.here hx rfl (hb hby hd) rfl q
theorem WP.iushr {x y : Int32} (hd : decode code pc = .ok (.iushr, 1)) (hp : pc + 1 = pc') (hr : WP C Z code ml own rt nm R n0 Q cl sl h pc' Ls (.int ((x.toUInt32 >>> (y &&& 31).toUInt32).toInt32) :: st)) : WP C Z code ml own rt nm R n0 Q cl sl h pc Ls (.int y :: .int x :: st) := by
  subst hp
  exact hr.pure fun X hx hby hown hZ eT t q => XS.iushr X.here hx rfl (hb hby hd) rfl q
theorem WP.ladd {x y : Int64} (hd : decode code pc = .ok (.ladd, 1)) (hp : pc + 1 = pc') (hr : WP C Z code ml own rt nm R n0 Q cl sl h pc' Ls (.long (x + y) :: st)) : WP C Z code ml own rt nm R n0 Q cl sl h pc Ls (.long y :: .long x :: st) := by
  subst hp
  exact hr.pure fun X hx hby hown hZ eT t q => XS.ladd X.here hx rfl (hb hby hd) rfl q
theorem WP.lsub {x y : Int64} (hd : decode code pc = .ok (.lsub, 1)) (hp : pc + 1 = pc') (hr : WP C Z code ml own rt nm R n0 Q cl sl h pc' Ls (.long (x - y) :: st)) : WP C Z code ml own rt nm R n0 Q cl sl h pc Ls (.long y :: .long x :: st) := by
  subst hp
  exact hr.pure fun X hx hby hown hZ eT t q => XS.lsub X.here hx rfl (hb hby hd) rfl q
theorem WP.lmul {x y : Int64} (hd : decode code pc = .ok (.lmul, 1)) (hp : pc + 1 = pc') (hr : WP C Z code ml own rt nm R n0 Q cl sl h pc' Ls (.long (x * y) :: st)) : WP C Z code ml own rt nm R n0 Q cl sl h pc Ls (.long y :: .long x :: st) := by
  subst hp
  exact hr.pure fun X hx hby hown hZ eT t q => XS.lmul X.here hx rfl (hb hby hd) rfl q
theorem WP.land {x y : Int64} (hd : decode code pc = .ok (.land, 1)) (hp : pc + 1 = pc') (hr : WP C Z code ml own rt nm R n0 Q cl sl h pc' Ls (.long (x &&& y) :: st)) : WP C Z code ml own rt nm R n0 Q cl sl h pc Ls (.long y :: .long x :: st) := by
  subst hp
  exact hr.pure fun X hx hby hown hZ eT t q => XS.land X.here hx rfl (hb hby hd) rfl q
theorem WP.lor {x y : Int64} (hd : decode code pc = .ok (.lor, 1)) (hp : pc + 1 = pc') (hr : WP C Z code ml own rt nm R n0 Q cl sl h pc' Ls (.long (x ||| y) :: st)) : WP C Z code ml own rt nm R n0 Q cl sl h pc Ls (.long y :: .long x :: st) := by
  subst hp
  exact hr.pure fun X hx hby hown hZ eT t q => XS.lor X.here hx rfl (hb hby hd) rfl q
theorem WP.lxor {x y : Int64} (hd : decode code pc = .ok (.lxor, 1)) (hp : pc + 1 = pc') (hr : WP C Z code ml own rt nm R n0 Q cl sl h pc' Ls (.long (x ^^^ y) :: st)) : WP C Z code ml own rt nm R n0 Q cl sl h pc Ls (.long y :: .long x :: st) := by
  subst hp
  exact hr.pure fun X hx hby hown hZ eT t q => XS.lxor X.here hx rfl (hb hby hd) rfl q
theorem WP.lshl {x : Int64} {y : Int32} (hd : decode code pc = .ok (.lshl, 1)) (hp : pc + 1 = pc') (hr : WP C Z code ml own rt nm R n0 Q cl sl h pc' Ls (.long (x <<< (y &&& 0x3f).toInt64) :: st)) : WP C Z code ml own rt nm R n0 Q cl sl h pc Ls (.int y :: .long x :: st) := by
  subst hp
  exact hr.pure fun X hx hby hown hZ eT t q => XS.lshl X.here hx rfl (hb hby hd) rfl q
theorem WP.lshr {x : Int64} {y : Int32} (hd : decode code pc = .ok (.lshr, 1)) (hp : pc + 1 = pc') (hr : WP C Z code ml own rt nm R n0 Q cl sl h pc' Ls (.long (x >>> (y &&& 0x3f).toInt64) :: st)) : WP C Z code ml own rt nm R n0 Q cl sl h pc Ls (.int y :: .long x :: st) := by
  subst hp
  exact hr.pure fun X hx hby hown hZ eT t q => XS.lshr X.here hx rfl (hb hby hd) rfl q
theorem WP.lushr {x : Int64} {y : Int32} (hd : decode code pc = .ok (.lushr, 1)) (hp : pc + 1 = pc') (hr : WP C Z code ml own rt nm R n0 Q cl sl h pc' Ls (.long ((x.toUInt64 >>> (y &&& 0x3f).toInt64.toUInt64).toInt64) :: st)) : WP C Z code ml own rt nm R n0 Q cl sl h pc Ls (.int y :: .long x :: st) := by
  subst hp
  exact hr.pure fun X hx hby hown hZ eT t q => XS.lushr X.here hx rfl (hb hby hd) rfl q
theorem WP.idiv {x y : Int32} (hd : decode code pc = .ok (.idiv, 1)) (hp : pc + 1 = pc') (hy : y ≠ 0) (hr : WP C Z code ml own rt nm R n0 Q cl sl h pc' Ls (.int (x / y) :: st)) : WP C Z code ml own rt nm R n0 Q cl sl h pc Ls (.int y :: .int x :: st) := by
  subst hp
  exact hr.pure fun X hx hby hown hZ eT t q => XS.idiv X.here hx rfl (hb hby hd) rfl hy q
theorem WP.irem {x y : Int32} (hd : decode code pc = .ok (.irem, 1)) (hp : pc + 1 = pc') (hy : y ≠ 0) (hr : WP C Z code ml own rt nm R n0 Q cl sl h pc' Ls (.int (x % y) :: st)) : WP C Z code ml own rt nm R n0 Q cl sl h pc Ls (.int y :: .int x :: st) := by
  subst hp
  exact hr.pure fun X hx hby hown hZ eT t q => iremM X hx rfl (hb hby hd) rfl hy q
theorem WP.ldiv {x y : Int64} (hd : decode code pc = .ok (.ldiv, 1)) (hp : pc + 1 = pc') (hy : y ≠ 0) (hr : WP C Z code ml own rt nm R n0 Q cl sl h pc' Ls (.long (x / y) :: st)) : WP C Z code ml own rt nm R n0 Q cl sl h pc Ls (.long y :: .long x :: st) := by
  subst hp
  exact hr.pure fun X hx hby hown hZ eT t q => XS.ldiv X.here hx rfl (hb hby hd) rfl hy q
theorem WP.lrem {x y : Int64} (hd : decode code pc = .ok (.lrem, 1)) (hp : pc + 1 = pc') (hy : y ≠ 0) (hr : WP C Z code ml own rt nm R n0 Q cl sl h pc' Ls (.long (x % y) :: st)) : WP C Z code ml own rt nm R n0 Q cl sl h pc Ls (.long y :: .long x :: st) := by
  subst hp
  exact hr.pure fun X hx hby hown hZ eT t q => XS.lrem X.here hx rfl (hb hby hd) rfl hy (by rw [lrem_mod]; exact q)
theorem WP.ineg {x : Int32} (hd : decode code pc = .ok (.ineg, 1)) (hp : pc + 1 = pc') (hr : WP C Z code ml own rt nm R n0 Q cl sl h pc' Ls (.int (-x) :: st)) : WP C Z code ml own rt nm R n0 Q cl sl h pc Ls (.int x :: st) := by
  subst hp
  exact hr.pure fun X hx hby hown hZ eT t q => XS.ineg X.here hx rfl (hb hby hd) rfl q
theorem WP.lneg {x : Int64} (hd : decode code pc = .ok (.lneg, 1)) (hp : pc + 1 = pc') (hr : WP C Z code ml own rt nm R n0 Q cl sl h pc' Ls (.long (-x) :: st)) : WP C Z code ml own rt nm R n0 Q cl sl h pc Ls (.long x :: st) := by
  subst hp
  exact hr.pure fun X hx hby hown hZ eT t q => XS.lneg X.here hx rfl (hb hby hd) rfl q
theorem WP.i2l {x : Int32} (hd : decode code pc = .ok (.i2l, 1)) (hp : pc + 1 = pc') (hr : WP C Z code ml own rt nm R n0 Q cl sl h pc' Ls (.long (x.toInt64) :: st)) : WP C Z code ml own rt nm R n0 Q cl sl h pc Ls (.int x :: st) := by
  subst hp
  exact hr.pure fun X hx hby hown hZ eT t q => XS.i2l X.here hx rfl (hb hby hd) rfl q
theorem WP.l2i {x : Int64} (hd : decode code pc = .ok (.l2i, 1)) (hp : pc + 1 = pc') (hr : WP C Z code ml own rt nm R n0 Q cl sl h pc' Ls (.int (x.toInt32) :: st)) : WP C Z code ml own rt nm R n0 Q cl sl h pc Ls (.long x :: st) := by
  subst hp
  exact hr.pure fun X hx hby hown hZ eT t q => XS.l2i X.here hx rfl (hb hby hd) rfl q
theorem WP.i2b {x : Int32} (hd : decode code pc = .ok (.i2b, 1)) (hp : pc + 1 = pc') (hr : WP C Z code ml own rt nm R n0 Q cl sl h pc' Ls (.int (x.toInt8.toInt32) :: st)) : WP C Z code ml own rt nm R n0 Q cl sl h pc Ls (.int x :: st) := by
  subst hp
  exact hr.pure fun X hx hby hown hZ eT t q => XS.i2b X.here hx rfl (hb hby hd) rfl q
theorem WP.i2c {x : Int32} (hd : decode code pc = .ok (.i2c, 1)) (hp : pc + 1 = pc') (hr : WP C Z code ml own rt nm R n0 Q cl sl h pc' Ls (.int (x.toUInt32.toUInt16.toUInt32.toInt32) :: st)) : WP C Z code ml own rt nm R n0 Q cl sl h pc Ls (.int x :: st) := by
  subst hp
  exact hr.pure fun X hx hby hown hZ eT t q => XS.i2c X.here hx rfl (hb hby hd) rfl q
theorem WP.i2s {x : Int32} (hd : decode code pc = .ok (.i2s, 1)) (hp : pc + 1 = pc') (hr : WP C Z code ml own rt nm R n0 Q cl sl h pc' Ls (.int (x.toInt16.toInt32) :: st)) : WP C Z code ml own rt nm R n0 Q cl sl h pc Ls (.int x :: st) := by
  subst hp
  exact hr.pure fun X hx hby hown hZ eT t q => XS.i2s X.here hx rfl (hb hby hd) rfl q
theorem WP.dup {x : Value} (hd : decode code pc = .ok (.dup, 1)) (hp : pc + 1 = pc') (hc : x.category = 1) (hr : WP C Z code ml own rt nm R n0 Q cl sl h pc' Ls (x :: x :: st)) : WP C Z code ml own rt nm R n0 Q cl sl h pc Ls (x :: st) := by
  subst hp
  exact hr.pure fun X hx hby hown hZ eT t q => XS.dup X.here hx rfl (hb hby hd) rfl hc q
theorem WP.pop {x : Value} (hd : decode code pc = .ok (.pop, 1)) (hp : pc + 1 = pc') (hc : x.category = 1) (hr : WP C Z code ml own rt nm R n0 Q cl sl h pc' Ls st) : WP C Z code ml own rt nm R n0 Q cl sl h pc Ls (x :: st) := by
  subst hp
  exact hr.pure fun X hx hby hown hZ eT t q => XS.pop X.here hx rfl (hb hby hd) rfl hc q
theorem WP.dupX1 {x y : Value} (hd : decode code pc = .ok (.dup_x1, 1)) (hp : pc + 1 = pc') (hc : x.category = 1) (hc' : y.category = 1) (hr : WP C Z code ml own rt nm R n0 Q cl sl h pc' Ls (x :: y :: x :: st)) : WP C Z code ml own rt nm R n0 Q cl sl h pc Ls (x :: y :: st) := by
  subst hp
  exact hr.pure fun X hx hby hown hZ eT t q => XS.dupX1 X.here hx rfl (hb hby hd) rfl hc hc' q
theorem WP.dup2 {x y : Value} (hd : decode code pc = .ok (.dup2, 1)) (hp : pc + 1 = pc') (hc : x.category = 1) (hc' : y.category = 1) (hr : WP C Z code ml own rt nm R n0 Q cl sl h pc' Ls (x :: y :: x :: y :: st)) : WP C Z code ml own rt nm R n0 Q cl sl h pc Ls (x :: y :: st) := by
  subst hp
  exact hr.pure fun X hx hby hown hZ eT t q => Jvm.Free.XT.dup2 X.here hx rfl (hb hby hd) rfl hc hc' q
theorem WP.dup2L {x : Int64} (hd : decode code pc = .ok (.dup2, 1)) (hp : pc + 1 = pc') (hr : WP C Z code ml own rt nm R n0 Q cl sl h pc' Ls (.long x :: .long x :: st)) : WP C Z code ml own rt nm R n0 Q cl sl h pc Ls (.long x :: st) := by
  subst hp
  exact hr.pure fun X hx hby hown hZ eT t q => Jvm.Free.XT.dup2L X.here hx rfl (hb hby hd) rfl q
theorem WP.iinc {k : Nat} {i : Int} {x z : Int32} (hd : decode code pc = .ok (.iinc k i, 3)) (hp : pc + 3 = pc') (hl : Ls[k]? = some (.val (.int x))) (hz : x + Int32.ofInt i = z) (hl' : storeLocals Ls k (.int z) = some Ls') (hr : WP C Z code ml own rt nm R n0 Q cl sl h pc' Ls' st) : WP C Z code ml own rt nm R n0 Q cl sl h pc Ls st := by
  subst hp
  subst hz
  exact hr.pure fun X hx hby hown hZ eT t q => XS.iinc X.here hx rfl (hb hby hd) hl hl' q
theorem WP.ldc2D {i : Nat} {v : UInt64} (hd : decode code pc = .ok (.ldc2_w i, 3)) (hp : pc + 3 = pc') (w : (Jvm.Cond.constantDouble own i v).before a0 Z = true) (hr : WP C Z code ml own rt nm R n0 Q cl sl h pc' Ls (.double v :: st)) : WP C Z code ml own rt nm R n0 Q cl sl h pc Ls st := by
  subst hp
  exact hr.pure fun X hx hby hown hZ eT t q => X.ldc2DoubleC hx hown (mvT hZ w) (g := mkF _ pc Ls st) rfl (hb hby hd) t q
theorem WP.dconst0 {v : UInt64} (hd : decode code pc = .ok (.dconst 0, 1)) (hp : pc + 1 = pc') (hv : FP.dconst0 = v) (hr : WP C Z code ml own rt nm R n0 Q cl sl h pc' Ls (.double v :: st)) : WP C Z code ml own rt nm R n0 Q cl sl h pc Ls st := by
  subst hp
  exact hr.pure fun X hx hby hown hZ eT t q => XS.dconst0 X.here hx rfl (hb hby hd) hv q
theorem WP.dconst1 {v : UInt64} (hd : decode code pc = .ok (.dconst 1, 1)) (hp : pc + 1 = pc') (hv : FP.dconst1 = v) (hr : WP C Z code ml own rt nm R n0 Q cl sl h pc' Ls (.double v :: st)) : WP C Z code ml own rt nm R n0 Q cl sl h pc Ls st := by
  subst hp
  exact hr.pure fun X hx hby hown hZ eT t q => XS.dconst1 X.here hx rfl (hb hby hd) hv q
theorem WP.i2d {x : Int32} {v : UInt64} (hd : decode code pc = .ok (.i2d, 1)) (hp : pc + 1 = pc') (hv : FP.i2d x = v) (hr : WP C Z code ml own rt nm R n0 Q cl sl h pc' Ls (.double v :: st)) : WP C Z code ml own rt nm R n0 Q cl sl h pc Ls (.int x :: st) := by
  subst hp
  exact hr.pure fun X hx hby hown hZ eT t q => XS.i2dS X.here hx rfl (hb hby hd) rfl hv q
theorem WP.l2d {x : Int64} {v : UInt64} (hd : decode code pc = .ok (.l2d, 1)) (hp : pc + 1 = pc') (hv : FP.l2d x = v) (hr : WP C Z code ml own rt nm R n0 Q cl sl h pc' Ls (.double v :: st)) : WP C Z code ml own rt nm R n0 Q cl sl h pc Ls (.long x :: st) := by
  subst hp
  exact hr.pure fun X hx hby hown hZ eT t q => XS.l2dS X.here hx rfl (hb hby hd) rfl hv q
theorem WP.dcmp {o : CmpOp} {x y : UInt64} {v : Int32} (hd : decode code pc = .ok (.dcmp o, 1)) (hp : pc + 1 = pc') (hv : cmpValue (FP.dcmp x y) o = v) (hr : WP C Z code ml own rt nm R n0 Q cl sl h pc' Ls (.int v :: st)) : WP C Z code ml own rt nm R n0 Q cl sl h pc Ls (.double y :: .double x :: st) := by
  subst hp
  exact hr.pure fun X hx hby hown hZ eT t q => XS.dcmpS X.here hx rfl (hb hby hd) rfl hv q
theorem WP.dadd {x y v : UInt64} (hd : decode code pc = .ok (.dadd, 1)) (hp : pc + 1 = pc') (hn : Jvm.Free.Fl.NoNaN64 (FP.dadd x y)) (hv : FP.dadd x y = v) (hr : WP C Z code ml own rt nm R n0 Q cl sl h pc' Ls (.double v :: st)) : WP C Z code ml own rt nm R n0 Q cl sl h pc Ls (.double y :: .double x :: st) := by
  subst hp
  exact hr.pure fun X hx hby hown hZ eT t q => XS.daddS X.here hx rfl (hb hby hd) rfl hn hv q
theorem WP.dsub {x y v : UInt64} (hd : decode code pc = .ok (.dsub, 1)) (hp : pc + 1 = pc') (hn : Jvm.Free.Fl.NoNaN64 (FP.dsub x y)) (hv : FP.dsub x y = v) (hr : WP C Z code ml own rt nm R n0 Q cl sl h pc' Ls (.double v :: st)) : WP C Z code ml own rt nm R n0 Q cl sl h pc Ls (.double y :: .double x :: st) := by
  subst hp
  exact hr.pure fun X hx hby hown hZ eT t q => XS.dsubS X.here hx rfl (hb hby hd) rfl hn hv q
theorem WP.dmul {x y v : UInt64} (hd : decode code pc = .ok (.dmul, 1)) (hp : pc + 1 = pc') (hn : Jvm.Free.Fl.NoNaN64 (FP.dmul x y)) (hv : FP.dmul x y = v) (hr : WP C Z code ml own rt nm R n0 Q cl sl h pc' Ls (.double v :: st)) : WP C Z code ml own rt nm R n0 Q cl sl h pc Ls (.double y :: .double x :: st) := by
  subst hp
  exact hr.pure fun X hx hby hown hZ eT t q => XS.dmulS X.here hx rfl (hb hby hd) rfl hn hv q
theorem WP.ddiv {x y v : UInt64} (hd : decode code pc = .ok (.ddiv, 1)) (hp : pc + 1 = pc') (hn : Jvm.Free.Fl.NoNaN64 (FP.ddiv x y)) (hv : FP.ddiv x y = v) (hr : WP C Z code ml own rt nm R n0 Q cl sl h pc' Ls (.double v :: st)) : WP C Z code ml own rt nm R n0 Q cl sl h pc Ls (.double y :: .double x :: st) := by
  subst hp
  exact hr.pure fun X hx hby hown hZ eT t q => XS.ddivS X.here hx rfl (hb hby hd) rfl hn hv q
theorem WP.lcmp {x y : Int64} (hd : decode code pc = .ok (.lcmp, 1)) (hp : pc + 1 = pc') (hr : WP C Z code ml own rt nm R n0 Q cl sl h pc' Ls (.int (lcmpW x y) :: st)) : WP C Z code ml own rt nm R n0 Q cl sl h pc Ls (.long y :: .long x :: st) := by
  subst hp
  exact hr.pure fun X hx hby hown hZ eT t q => XS.lcmp X.here hx rfl (hb hby hd) rfl q
theorem WP.goto {o : Int} (hd : decode code pc = .ok (.goto o, 3)) (ho : 0 ≤ (pc : Int) + o) (hp : ((pc : Int) + o).toNat = pc') (hr : WP C Z code ml own rt nm R n0 Q cl sl h pc' Ls st) : WP C Z code ml own rt nm R n0 Q cl sl h pc Ls st :=
  hr.pure fun X hx hby hown hZ eT t q => XS.goto X.here hx rfl (pc0 := pc) rfl (hb hby hd) ho hp q
theorem WP.icmp {pc1 pc2 : Nat} {x y : Int32} {cd : ClassFile.Cond} {o : Int} (hd : decode code pc = .ok (.if_icmp cd o, 3)) (ho : 0 ≤ (pc : Int) + o) (hp : ((pc : Int) + o).toNat = pc1) (hp2 : pc + 3 = pc2) (hy : if_icmp.holds cd x y = true → WP C Z code ml own rt nm R n0 Q cl sl h pc1 Ls st) (hn : if_icmp.holds cd x y = false → WP C Z code ml own rt nm R n0 Q cl sl h pc2 Ls st) : WP C Z code ml own rt nm R n0 Q cl sl h pc Ls (.int y :: .int x :: st) := by
  subst hp2
  cases hq : if_icmp.holds cd x y with
  | true => exact (hy hq).pure fun X hx hby hown hZ eT t q => XS.icmpYes X.here hx rfl (pc0 := pc) rfl (hb hby hd) rfl hq ho hp q
  | false => exact (hn hq).pure fun X hx hby hown hZ eT t q => XS.icmpNo X.here hx rfl (hb hby hd) rfl hq q
theorem WP.icmp_lt {pc1 pc2 : Nat} {x y : Int32} {o : Int} (hd : decode code pc = .ok (.if_icmp .lt o, 3)) (ho : 0 ≤ (pc : Int) + o) (hp : ((pc : Int) + o).toNat = pc1) (hp2 : pc + 3 = pc2) (hy : x < y → WP C Z code ml own rt nm R n0 Q cl sl h pc1 Ls st) (hn : ¬ x < y → WP C Z code ml own rt nm R n0 Q cl sl h pc2 Ls st) : WP C Z code ml own rt nm R n0 Q cl sl h pc Ls (.int y :: .int x :: st) :=
  WP.icmp hd ho hp hp2 (fun hq => hy (Decidable.byContradiction fun k => by rw [(flt k).1] at hq; cases hq)) (fun hq => hn (fun k => by rw [(tlt k).1] at hq; cases hq))
theorem WP.icmp_ge {pc1 pc2 : Nat} {x y : Int32} {o : Int} (hd : decode code pc = .ok (.if_icmp .ge o, 3)) (ho : 0 ≤ (pc : Int) + o) (hp : ((pc : Int) + o).toNat = pc1) (hp2 : pc + 3 = pc2) (hy : ¬ x < y → WP C Z code ml own rt nm R n0 Q cl sl h pc1 Ls st) (hn : x < y → WP C Z code ml own rt nm R n0 Q cl sl h pc2 Ls st) : WP C Z code ml own rt nm R n0 Q cl sl h pc Ls (.int y :: .int x :: st) :=
  WP.icmp hd ho hp hp2 (fun hq => hy (fun k => by rw [(tlt k).2.1] at hq; cases hq)) (fun hq => hn (Decidable.byContradiction fun k => by rw [(flt k).2.1] at hq; cases hq))
theorem WP.icmp_gt {pc1 pc2 : Nat} {x y : Int32} {o : Int} (hd : decode code pc = .ok (.if_icmp .gt o, 3)) (ho : 0 ≤ (pc : Int) + o) (hp : ((pc : Int) + o).toNat = pc1) (hp2 : pc + 3 = pc2) (hy : y < x → WP C Z code ml own rt nm R n0 Q cl sl h pc1 Ls st) (hn : ¬ y < x → WP C Z code ml own rt nm R n0 Q cl sl h pc2 Ls st) : WP C Z code ml own rt nm R n0 Q cl sl h pc Ls (.int y :: .int x :: st) :=
  WP.icmp hd ho hp hp2 (fun hq => hy (Decidable.byContradiction fun k => by rw [(flt k).2.2.1] at hq; cases hq)) (fun hq => hn (fun k => by rw [(tlt k).2.2.1] at hq; cases hq))
theorem WP.icmp_le {pc1 pc2 : Nat} {x y : Int32} {o : Int} (hd : decode code pc = .ok (.if_icmp .le o, 3)) (ho : 0 ≤ (pc : Int) + o) (hp : ((pc : Int) + o).toNat = pc1) (hp2 : pc + 3 = pc2) (hy : ¬ y < x → WP C Z code ml own rt nm R n0 Q cl sl h pc1 Ls st) (hn : y < x → WP C Z code ml own rt nm R n0 Q cl sl h pc2 Ls st) : WP C Z code ml own rt nm R n0 Q cl sl h pc Ls (.int y :: .int x :: st) :=
  WP.icmp hd ho hp hp2 (fun hq => hy (fun k => by rw [(tlt k).2.2.2] at hq; cases hq)) (fun hq => hn (Decidable.byContradiction fun k => by rw [(flt k).2.2.2] at hq; cases hq))
theorem WP.icmp_eq {pc1 pc2 : Nat} {x y : Int32} {o : Int} (hd : decode code pc = .ok (.if_icmp .eq o, 3)) (ho : 0 ≤ (pc : Int) + o) (hp : ((pc : Int) + o).toNat = pc1) (hp2 : pc + 3 = pc2) (hy : x = y → WP C Z code ml own rt nm R n0 Q cl sl h pc1 Ls st) (hn : ¬ x = y → WP C Z code ml own rt nm R n0 Q cl sl h pc2 Ls st) : WP C Z code ml own rt nm R n0 Q cl sl h pc Ls (.int y :: .int x :: st) :=
  WP.icmp hd ho hp hp2 (fun hq => hy (Decidable.byContradiction fun k => by rw [(feq k).1] at hq; cases hq)) (fun hq => hn (fun k => by rw [(teq k).1] at hq; cases hq))
theorem WP.icmp_ne {pc1 pc2 : Nat} {x y : Int32} {o : Int} (hd : decode code pc = .ok (.if_icmp .ne o, 3)) (ho : 0 ≤ (pc : Int) + o) (hp : ((pc : Int) + o).toNat = pc1) (hp2 : pc + 3 = pc2) (hy : ¬ x = y → WP C Z code ml own rt nm R n0 Q cl sl h pc1 Ls st) (hn : x = y → WP C Z code ml own rt nm R n0 Q cl sl h pc2 Ls st) : WP C Z code ml own rt nm R n0 Q cl sl h pc Ls (.int y :: .int x :: st) :=
  WP.icmp hd ho hp hp2 (fun hq => hy (fun k => by rw [(teq k).2] at hq; cases hq)) (fun hq => hn (Decidable.byContradiction fun k => by rw [(feq k).2] at hq; cases hq))
theorem WP.ifc {pc1 pc2 : Nat} {x : Int32} {cd : ClassFile.Cond} {o : Int} (hd : decode code pc = .ok (.ifCond cd o, 3)) (ho : 0 ≤ (pc : Int) + o) (hp : ((pc : Int) + o).toNat = pc1) (hp2 : pc + 3 = pc2) (hy : ifCond.holds cd x = true → WP C Z code ml own rt nm R n0 Q cl sl h pc1 Ls st) (hn : ifCond.holds cd x = false → WP C Z code ml own rt nm R n0 Q cl sl h pc2 Ls st) : WP C Z code ml own rt nm R n0 Q cl sl h pc Ls (.int x :: st) := by
  subst hp2
  cases hq : ifCond.holds cd x with
  | true => exact (hy hq).pure fun X hx hby hown hZ eT t q => XS.ifYes X.here hx rfl (pc0 := pc) rfl (hb hby hd) rfl hq ho hp q
  | false => exact (hn hq).pure fun X hx hby hown hZ eT t q => XS.ifNo X.here hx rfl (hb hby hd) rfl hq q
theorem WP.ifc_lt {pc1 pc2 : Nat} {x : Int32} {o : Int} (hd : decode code pc = .ok (.ifCond .lt o, 3)) (ho : 0 ≤ (pc : Int) + o) (hp : ((pc : Int) + o).toNat = pc1) (hp2 : pc + 3 = pc2) (hy : x < (0 : Int32) → WP C Z code ml own rt nm R n0 Q cl sl h pc1 Ls st) (hn : ¬ x < (0 : Int32) → WP C Z code ml own rt nm R n0 Q cl sl h pc2 Ls st) : WP C Z code ml own rt nm R n0 Q cl sl h pc Ls (.int x :: st) :=
  WP.ifc hd ho hp hp2 (fun hq => hy (Decidable.byContradiction fun k => by rw [(if0 _ _).trans (flt k).1] at hq; cases hq)) (fun hq => hn (fun k => by rw [(if0 _ _).trans (tlt k).1] at hq; cases hq))
theorem WP.ifc_ge {pc1 pc2 : Nat} {x : Int32} {o : Int} (hd : decode code pc = .ok (.ifCond .ge o, 3)) (ho : 0 ≤ (pc : Int) + o) (hp : ((pc : Int) + o).toNat = pc1) (hp2 : pc + 3 = pc2) (hy : ¬ x < (0 : Int32) → WP C Z code ml own rt nm R n0 Q cl sl h pc1 Ls st) (hn : x < (0 : Int32) → WP C Z code ml own rt nm R n0 Q cl sl h pc2 Ls st) : WP C Z code ml own rt nm R n0 Q cl sl h pc Ls (.int x :: st) :=
  WP.ifc hd ho hp hp2 (fun hq => hy (fun k => by rw [(if0 _ _).trans (tlt k).2.1] at hq; cases hq)) (fun hq => hn (Decidable.byContradiction fun k => by rw [(if0 _ _).trans (flt k).2.1] at hq; cases hq))
theorem WP.ifc_gt {pc1 pc2 : Nat} {x : Int32} {o : Int} (hd : decode code pc = .ok (.ifCond .gt o, 3)) (ho : 0 ≤ (pc : Int) + o) (hp : ((pc : Int) + o).toNat = pc1) (hp2 : pc + 3 = pc2) (hy : (0 : Int32) < x → WP C Z code ml own rt nm R n0 Q cl sl h pc1 Ls st) (hn : ¬ (0 : Int32) < x → WP C Z code ml own rt nm R n0 Q cl sl h pc2 Ls st) : WP C Z code ml own rt nm R n0 Q cl sl h pc Ls (.int x :: st) :=
  WP.ifc hd ho hp hp2 (fun hq => hy (Decidable.byContradiction fun k => by rw [(if0 _ _).trans (flt k).2.2.1] at hq; cases hq)) (fun hq => hn (fun k => by rw [(if0 _ _).trans (tlt k).2.2.1] at hq; cases hq))
theorem WP.ifc_le {pc1 pc2 : Nat} {x : Int32} {o : Int} (hd : decode code pc = .ok (.ifCond .le o, 3)) (ho : 0 ≤ (pc : Int) + o) (hp : ((pc : Int) + o).toNat = pc1) (hp2 : pc + 3 = pc2) (hy : ¬ (0 : Int32) < x → WP C Z code ml own rt nm R n0 Q cl sl h pc1 Ls st) (hn : (0 : Int32) < x → WP C Z code ml own rt nm R n0 Q cl sl h pc2 Ls st) : WP C Z code ml own rt nm R n0 Q cl sl h pc Ls (.int x :: st) :=
  WP.ifc hd ho hp hp2 (fun hq => hy (fun k => by rw [(if0 _ _).trans (tlt k).2.2.2] at hq; cases hq)) (fun hq => hn (Decidable.byContradiction fun k => by rw [(if0 _ _).trans (flt k).2.2.2] at hq; cases hq))
theorem WP.ifc_eq {pc1 pc2 : Nat} {x : Int32} {o : Int} (hd : decode code pc = .ok (.ifCond .eq o, 3)) (ho : 0 ≤ (pc : Int) + o) (hp : ((pc : Int) + o).toNat = pc1) (hp2 : pc + 3 = pc2) (hy : x = (0 : Int32) → WP C Z code ml own rt nm R n0 Q cl sl h pc1 Ls st) (hn : ¬ x = (0 : Int32) → WP C Z code ml own rt nm R n0 Q cl sl h pc2 Ls st) : WP C Z code ml own rt nm R n0 Q cl sl h pc Ls (.int x :: st) :=
  WP.ifc hd ho hp hp2 (fun hq => hy (Decidable.byContradiction fun k => by rw [(if0 _ _).trans (feq k).1] at hq; cases hq)) (fun hq => hn (fun k => by rw [(if0 _ _).trans (teq k).1] at hq; cases hq))
theorem WP.ifc_ne {pc1 pc2 : Nat} {x : Int32} {o : Int} (hd : decode code pc = .ok (.ifCond .ne o, 3)) (ho : 0 ≤ (pc : Int) + o) (hp : ((pc : Int) + o).toNat = pc1) (hp2 : pc + 3 = pc2) (hy : ¬ x = (0 : Int32) → WP C Z code ml own rt nm R n0 Q cl sl h pc1 Ls st) (hn : x = (0 : Int32) → WP C Z code ml own rt nm R n0 Q cl sl h pc2 Ls st) : WP C Z code ml own rt nm R n0 Q cl sl h pc Ls (.int x :: st) :=
  WP.ifc hd ho hp hp2 (fun hq => hy (fun k => by rw [(if0 _ _).trans (teq k).2] at hq; cases hq)) (fun hq => hn (Decidable.byContradiction fun k => by rw [(if0 _ _).trans (feq k).2] at hq; cases hq))
theorem WP.lcmp_lt {pc1 pc2 : Nat} {x y : Int64} {o : Int} (hd1 : decode code pc = .ok (.lcmp, 1)) (hp0 : pc + 1 = pc') (hd : decode code pc' = .ok (.ifCond .lt o, 3)) (ho : 0 ≤ (pc' : Int) + o) (hp : ((pc' : Int) + o).toNat = pc1) (hp2 : pc' + 3 = pc2) (hy : x < y → WP C Z code ml own rt nm R n0 Q cl sl h pc1 Ls st) (hn : ¬ x < y → WP C Z code ml own rt nm R n0 Q cl sl h pc2 Ls st) : WP C Z code ml own rt nm R n0 Q cl sl h pc Ls (.long y :: .long x :: st) :=
  WP.lcmp hd1 hp0 (WP.ifc_lt hd ho hp hp2 (fun k => hy ((lw_lt x y).mp k)) (fun k => hn (fun z => k ((lw_lt x y).mpr z))))
theorem WP.lcmp_ge {pc1 pc2 : Nat} {x y : Int64} {o : Int} (hd1 : decode code pc = .ok (.lcmp, 1)) (hp0 : pc + 1 = pc') (hd : decode code pc' = .ok (.ifCond .ge o, 3)) (ho : 0 ≤ (pc' : Int) + o) (hp : ((pc' : Int) + o).toNat = pc1) (hp2 : pc' + 3 = pc2) (hy : ¬ x < y → WP C Z code ml own rt nm R n0 Q cl sl h pc1 Ls st) (hn : x < y → WP C Z code ml own rt nm R n0 Q cl sl h pc2 Ls st) : WP C Z code ml own rt nm R n0 Q cl sl h pc Ls (.long y :: .long x :: st) :=
  WP.lcmp hd1 hp0 (WP.ifc_ge hd ho hp hp2 (fun k => hy (fun z => k ((lw_lt x y).mpr z))) (fun k => hn ((lw_lt x y).mp k)))
theorem WP.lcmp_gt {pc1 pc2 : Nat} {x y : Int64} {o : Int} (hd1 : decode code pc = .ok (.lcmp, 1)) (hp0 : pc + 1 = pc') (hd : decode code pc' = .ok (.ifCond .gt o, 3)) (ho : 0 ≤ (pc' : Int) + o) (hp : ((pc' : Int) + o).toNat = pc1) (hp2 : pc' + 3 = pc2) (hy : y < x → WP C Z code ml own rt nm R n0 Q cl sl h pc1 Ls st) (hn : ¬ y < x → WP C Z code ml own rt nm R n0 Q cl sl h pc2 Ls st) : WP C Z code ml own rt nm R n0 Q cl sl h pc Ls (.long y :: .long x :: st) :=
  WP.lcmp hd1 hp0 (WP.ifc_gt hd ho hp hp2 (fun k => hy ((lw_gt x y).mp k)) (fun k => hn (fun z => k ((lw_gt x y).mpr z))))
theorem WP.lcmp_le {pc1 pc2 : Nat} {x y : Int64} {o : Int} (hd1 : decode code pc = .ok (.lcmp, 1)) (hp0 : pc + 1 = pc') (hd : decode code pc' = .ok (.ifCond .le o, 3)) (ho : 0 ≤ (pc' : Int) + o) (hp : ((pc' : Int) + o).toNat = pc1) (hp2 : pc' + 3 = pc2) (hy : ¬ y < x → WP C Z code ml own rt nm R n0 Q cl sl h pc1 Ls st) (hn : y < x → WP C Z code ml own rt nm R n0 Q cl sl h pc2 Ls st) : WP C Z code ml own rt nm R n0 Q cl sl h pc Ls (.long y :: .long x :: st) :=
  WP.lcmp hd1 hp0 (WP.ifc_le hd ho hp hp2 (fun k => hy (fun z => k ((lw_gt x y).mpr z))) (fun k => hn ((lw_gt x y).mp k)))
theorem WP.lcmp_eq {pc1 pc2 : Nat} {x y : Int64} {o : Int} (hd1 : decode code pc = .ok (.lcmp, 1)) (hp0 : pc + 1 = pc') (hd : decode code pc' = .ok (.ifCond .eq o, 3)) (ho : 0 ≤ (pc' : Int) + o) (hp : ((pc' : Int) + o).toNat = pc1) (hp2 : pc' + 3 = pc2) (hy : x = y → WP C Z code ml own rt nm R n0 Q cl sl h pc1 Ls st) (hn : ¬ x = y → WP C Z code ml own rt nm R n0 Q cl sl h pc2 Ls st) : WP C Z code ml own rt nm R n0 Q cl sl h pc Ls (.long y :: .long x :: st) :=
  WP.lcmp hd1 hp0 (WP.ifc_eq hd ho hp hp2 (fun k => hy ((lw_eq x y).mp k)) (fun k => hn (fun z => k ((lw_eq x y).mpr z))))
theorem WP.lcmp_ne {pc1 pc2 : Nat} {x y : Int64} {o : Int} (hd1 : decode code pc = .ok (.lcmp, 1)) (hp0 : pc + 1 = pc') (hd : decode code pc' = .ok (.ifCond .ne o, 3)) (ho : 0 ≤ (pc' : Int) + o) (hp : ((pc' : Int) + o).toNat = pc1) (hp2 : pc' + 3 = pc2) (hy : ¬ x = y → WP C Z code ml own rt nm R n0 Q cl sl h pc1 Ls st) (hn : x = y → WP C Z code ml own rt nm R n0 Q cl sl h pc2 Ls st) : WP C Z code ml own rt nm R n0 Q cl sl h pc Ls (.long y :: .long x :: st) :=
  WP.lcmp hd1 hp0 (WP.ifc_ne hd ho hp hp2 (fun k => hy (fun z => k ((lw_eq x y).mpr z))) (fun k => hn ((lw_eq x y).mp k)))
theorem WP.ifnullY {b : Addr} {o : Int} (hd : decode code pc = .ok (.ifnull o, 3)) (ho : 0 ≤ (pc : Int) + o) (hp : ((pc : Int) + o).toNat = pc') (hr : WP C Z code ml own rt nm R n0 Q cl sl h pc' Ls st) : WP C Z code ml own rt nm R n0 Q cl sl h pc Ls (.null :: st) :=
  hr.pure fun X hx hby hown hZ eT t q => XS.ifnullYes X.here hx rfl (pc0 := pc) rfl (hb hby hd) rfl ho hp q
theorem WP.ifnullN {b : Addr} {o : Int} (hd : decode code pc = .ok (.ifnull o, 3)) (hp : pc + 3 = pc') (hr : WP C Z code ml own rt nm R n0 Q cl sl h pc' Ls st) : WP C Z code ml own rt nm R n0 Q cl sl h pc Ls (.ref b :: st) := by
  subst hp
  exact hr.pure fun X hx hby hown hZ eT t q => XS.ifnullNo X.here hx rfl (hb hby hd) rfl q
theorem WP.ifnonnullY {b : Addr} {o : Int} (hd : decode code pc = .ok (.ifnonnull o, 3)) (ho : 0 ≤ (pc : Int) + o) (hp : ((pc : Int) + o).toNat = pc') (hr : WP C Z code ml own rt nm R n0 Q cl sl h pc' Ls st) : WP C Z code ml own rt nm R n0 Q cl sl h pc Ls (.ref b :: st) :=
  hr.pure fun X hx hby hown hZ eT t q => XS.ifnonnullYes X.here hx rfl (pc0 := pc) rfl (hb hby hd) rfl ho hp q
theorem WP.ifnonnullN {b : Addr} {o : Int} (hd : decode code pc = .ok (.ifnonnull o, 3)) (hp : pc + 3 = pc') (hr : WP C Z code ml own rt nm R n0 Q cl sl h pc' Ls st) : WP C Z code ml own rt nm R n0 Q cl sl h pc Ls (.null :: st) := by
  subst hp
  exact hr.pure fun X hx hby hown hZ eT t q => XS.ifnonnullNo X.here hx rfl (hb hby hd) rfl q
theorem WP.acmp_eq {pc1 pc2 : Nat} {x y : Value} {o : Int} (hd : decode code pc = .ok (.if_acmp .eq o, 3)) (h1 : x.isRef = true) (h2 : y.isRef = true) (ho : 0 ≤ (pc : Int) + o) (hp : ((pc : Int) + o).toNat = pc1) (hp2 : pc + 3 = pc2) (hy : x = y → WP C Z code ml own rt nm R n0 Q cl sl h pc1 Ls st) (hn : ¬ x = y → WP C Z code ml own rt nm R n0 Q cl sl h pc2 Ls st) : WP C Z code ml own rt nm R n0 Q cl sl h pc Ls (y :: x :: st) := by
  by_cases k : x = y
  · exact (hy k).pure fun X hx hby hown hZ eT t q => Jvm.RoadKit.acmp X hx rfl h1 h2 (pc0 := pc) (same := true) rfl (hb hby hd) rfl (decide_eq_true k) ho (by simp [acV, hp, hp2]) q
  · exact (hn k).pure fun X hx hby hown hZ eT t q => Jvm.RoadKit.acmp X hx rfl h1 h2 (pc0 := pc) (same := false) rfl (hb hby hd) rfl (decide_eq_false k) ho (by simp [acV, hp, hp2]) q
theorem WP.acmp_ne {pc1 pc2 : Nat} {x y : Value} {o : Int} (hd : decode code pc = .ok (.if_acmp .ne o, 3)) (h1 : x.isRef = true) (h2 : y.isRef = true) (ho : 0 ≤ (pc : Int) + o) (hp : ((pc : Int) + o).toNat = pc1) (hp2 : pc + 3 = pc2) (hy : ¬ x = y → WP C Z code ml own rt nm R n0 Q cl sl h pc1 Ls st) (hn : x = y → WP C Z code ml own rt nm R n0 Q cl sl h pc2 Ls st) : WP C Z code ml own rt nm R n0 Q cl sl h pc Ls (y :: x :: st) := by
  by_cases k : x = y
  · exact (hn k).pure fun X hx hby hown hZ eT t q => Jvm.RoadKit.acmp X hx rfl h1 h2 (pc0 := pc) (same := true) rfl (hb hby hd) rfl (decide_eq_true k) ho (by simp [acV, hp, hp2]) q
  · exact (hy k).pure fun X hx hby hown hZ eT t q => Jvm.RoadKit.acmp X hx rfl h1 h2 (pc0 := pc) (same := false) rfl (hb hby hd) rfl (decide_eq_false k) ho (by simp [acV, hp, hp2]) q
theorem WP.getF {i : Nat} {R0 O n d host : String} {a : Addr} {v : Value} (hd : decode code pc = .ok (.getfield i, 3)) (hp : pc + 3 = pc') (w : (Jvm.Cond.fieldLink own i R0 n d).before a0 Z = true ∨ (Jvm.Cond.fieldLinkNest own i R0 n d host).before a0 Z = true) (via : Via Z R0 O n d) (F : Fld Z h a O n d v) (hr : WP C Z code ml own rt nm R n0 Q cl sl h pc' Ls (v :: st)) : WP C Z code ml own rt nm R n0 Q cl sl h pc Ls (.ref a :: st) := by
  subst hp
  refine hr.step fun X hx hby hml hown hZ hnm eT N => ?_
  obtain ⟨T', X', e', k⟩ := RoadKit.getF X hx hZ hown w via eT F (g := mkF _ pc Ls (.ref a :: st)) rfl rfl (hb hby hd)
  exact ⟨T', _, X', e', N, fun t q => k t q⟩
theorem WP.getS {i : Nat} {R0 O n d host : String} {v : Value} (hd : decode code pc = .ok (.getstatic i, 3)) (hp : pc + 3 = pc') (w : (Jvm.Cond.fieldLink own i R0 n d).before a0 Z = true ∨ (Jvm.Cond.fieldLinkNest own i R0 n d host).before a0 Z = true) (via : Via Z R0 O n d) (F : Sta Z h O n d v) (hr : WP C Z code ml own rt nm R n0 Q cl sl h pc' Ls (v :: st)) : WP C Z code ml own rt nm R n0 Q cl sl h pc Ls st := by
  subst hp
  refine hr.step fun X hx hby hml hown hZ hnm eT N => ?_
  obtain ⟨T', X', e', k⟩ := getS2 X hx hZ hown w via eT F (g := mkF _ pc Ls st) rfl (hb hby hd)
  exact ⟨T', _, X', e', N, fun t q => k t q⟩
theorem WP.putF {i kk : Nat} {R0 O n d host K : String} {ty : FieldType} {a : Addr} {v old : Value} (hd : decode code pc = .ok (.putfield i, 3)) (hp : pc + 3 = pc') (w : (Jvm.Cond.fieldLink own i R0 n d).before a0 Z = true ∨ (Jvm.Cond.fieldLinkNest own i R0 n d host).before a0 Z = true) (via : Via Z R0 O n d) (F : Fld Z h a O n d old) (E : Exa Z h a K) (L : (Jvm.Cond.lays K O n d).before a0 Z = true ∨ ((Jvm.Cond.laysFinal K O n d).before a0 Z = true ∧ own = O ∧ nm = "<init>")) (wi : (Jvm.Cond.instantiable K kk).before a0 Z = true)
    (hty : parseFieldDescriptor d = some ty) (hn : narrow ty v = v) (hf : fits ty v = true) (ge : n0 ≤ a) (hr : ∀ h', Wr h h' a (Jvm.RoadKit.slotOf Z O n d) v → WP C Z code ml own rt nm R n0 Q cl sl h' pc' Ls st) : WP C Z code ml own rt nm R n0 Q cl sl h pc Ls (v :: .ref a :: st) := by
  subst hp
  intro k1 k2 k3 k4 k5 k6 k7 k8 T locs X e N
  obtain ⟨T', h', X', e', W', k⟩ := RoadKit.putF X k1 k5 k4 w via e F E (L.imp id fun z => ⟨z.1, z.2.1, k8.trans z.2.2⟩) wi hty hn hf (g := mkF _ pc Ls (v :: .ref a :: st)) rfl rfl (hb k2 hd)
  obtain ⟨s₂, v', L', h1, h2⟩ := hr h' W' k1 k2 k3 k4 k5 k6 k7 k8 T' _ X' e' (Fr.snoc X' N ge)
  exact ⟨s₂, v', L', k _ h1, h2⟩
theorem WP.putFN {i kk : Nat} {R0 O n d K : String} {ty : FieldType} {a : Addr} {v v' old : Value} (hd : decode code pc = .ok (.putfield i, 3)) (hp : pc + 3 = pc') (w : (Jvm.Cond.fieldLink own i R0 n d).before a0 Z = true) (via : Via Z R0 O n d) (F : Fld Z h a O n d old) (E : Exa Z h a K) (L : (Jvm.Cond.lays K O n d).before a0 Z = true ∨ ((Jvm.Cond.laysFinal K O n d).before a0 Z = true ∧ own = O ∧ nm = "<init>")) (wi : (Jvm.Cond.instantiable K kk).before a0 Z = true)
    (hty : parseFieldDescriptor d = some ty) (hn : narrow ty v = v') (hf : fits ty v' = true) (ge : n0 ≤ a) (hr : ∀ h', Wr h h' a (Jvm.RoadKit.slotOf Z O n d) v' → WP C Z code ml own rt nm R n0 Q cl sl h' pc' Ls st) : WP C Z code ml own rt nm R n0 Q cl sl h pc Ls (v :: .ref a :: st) := by
  subst hp
  intro k1 k2 k3 k4 k5 k6 k7 k8 T locs X e N
  obtain ⟨T', h', X', e', W', k⟩ := RoadKit.putFN X k1 k5 k4 w via e F E (L.imp id fun z => ⟨z.1, z.2.1, k8.trans z.2.2⟩) wi hty hn hf (g := mkF _ pc Ls (v :: .ref a :: st)) rfl rfl (hb k2 hd)
  obtain ⟨s₂, v'', L', h1, h2⟩ := hr h' W' k1 k2 k3 k4 k5 k6 k7 k8 T' _ X' e' (Fr.snoc X' N ge)
  exact ⟨s₂, v'', L', k _ h1, h2⟩
theorem WP.newO {i n : Nat} {K : String} {cl' sl' : Nat} (hd : decode code pc = .ok (.new i, 3)) (hp : pc + 3 = pc') (w : (Jvm.Cond.classLink own i K).before a0 Z = true) (wi : (Jvm.Cond.instantiable K n).before a0 Z = true) (wz : (Jvm.Cond.initialized K).before a0 Z = true) (hc : cl + 1 = cl') (hs : sl + n = sl') (hc' : cl' ≤ R.cells) (hs' : sl' ≤ R.slots)
    (hr : ∀ h' a, a = h.size → Ext h h' → Exa Z h' a K → (∀ {O nf d : String} {ty : FieldType}, Laid Z a0 K O nf d → parseFieldDescriptor d = some ty → Fld Z h' a O nf d (defaultValue ty)) → WP C Z code ml own rt nm R n0 Q cl' sl' h' pc' Ls (.ref a :: st)) : WP C Z code ml own rt nm R n0 Q cl sl h pc Ls st := by
  subst hp hc hs
  intro k1 k2 k3 k4 k5 k6 k7 k8 T locs X e N
  obtain ⟨T', h', X', e', E', A', D', -, k⟩ := RoadKit.newO X k1 k5 k4 w wi wz e (g := mkF _ pc Ls st) rfl (hb k2 hd) hc' hs'
  obtain ⟨s₂, v', L', h1, h2⟩ := hr h' _ rfl E' A' D' k1 k2 k3 k4 k5 k6 k7 k8 T' _ X' e' N
  exact ⟨s₂, v', L', k _ h1, h2⟩
/-- an array of n elements, the i-th is f i -/
def Arf (Z : State) (h : Heap) (a : Addr) (ty : FieldType) (n : Nat) (f : Nat → Value) : Prop := ∃ c : Cell, Arr Z h a c ty ∧ c.slots.size = n ∧ n < 2147483648 ∧ (∀ i, i < n → c.slots[i]? = some (f i)) ∧ ∀ i, i < n → fits ty (f i) = true
theorem Arf.lt {a : Addr} {ty : FieldType} {n : Nat} {f : Nat → Value} (A : Arf Z h a ty n f) : a < h.size := by obtain ⟨c, A, -⟩ := A; exact A.lt
theorem Arf.small {a : Addr} {ty : FieldType} {n : Nat} {f : Nat → Value} (A : Arf Z h a ty n f) : n < 2147483648 := by obtain ⟨c, -, -, h, -⟩ := A; exact h
theorem Arf.keep {h' : Heap} {ws : List Addr} {a : Addr} {ty : FieldType} {n : Nat} {f : Nat → Value} (A : Arf Z h a ty n f) (K : Keep h h' ws) (q : a ∉ ws) : Arf Z h' a ty n f := by obtain ⟨c, A, r⟩ := A; exact ⟨c, ⟨K.2.1 a c A.1 q, A.2⟩, r⟩
theorem Arf.ext {h' : Heap} {a : Addr} {ty : FieldType} {n : Nat} {f : Nat → Value} (A : Arf Z h a ty n f) (E : Ext h h') : Arf Z h' a ty n f := by obtain ⟨c, A, r⟩ := A; exact ⟨c, A.ext E, r⟩
theorem Arf.fit {a : Addr} {ty : FieldType} {n : Nat} {f : Nat → Value} (A : Arf Z h a ty n f) {i : Nat} (hi : i < n) : fits ty (f i) = true := by obtain ⟨c, -, -, -, -, r⟩ := A; exact r i hi
theorem Arf.congr {a : Addr} {ty : FieldType} {n : Nat} {f g : Nat → Value} (A : Arf Z h a ty n f) (q : ∀ i, i < n → f i = g i) : Arf Z h a ty n g := by
  obtain ⟨c, A, r1, r2, r3, r4⟩ := A; exact ⟨c, A, r1, r2, fun i hi => by rw [← q i hi]; exact r3 i hi, fun i hi => by rw [← q i hi]; exact r4 i hi⟩
theorem idxN {j : Int32} {i n : Nat} (hi : j.toInt = (i : Int)) (hl : i < n) : ¬ (j < 0 ∨ n ≤ j.toNatClampNeg) ∧ j.toNatClampNeg = i := by
  have e0 : (0 : Int32).toInt = 0 := rfl
  simp only [Int32.lt_iff_toInt_lt, Int32.toNatClampNeg, hi, e0]; omega
theorem WP.baload {a : Addr} {j : Int32} {n : Nat} {f : Nat → Value} {v : Value} (i : Nat) (hd : decode code pc = .ok (.baload, 1)) (hp : pc + 1 = pc') (A : Arf Z h a .byte n f) (hi : j.toInt = (i : Int)) (hl : i < n) (hv : f i = v) (hr : WP C Z code ml own rt nm R n0 Q cl sl h pc' Ls (v :: st)) : WP C Z code ml own rt nm R n0 Q cl sl h pc Ls (.int j :: .ref a :: st) := by
  subst hp hv
  obtain ⟨c, A, r1, r2, r3, r4⟩ := A
  obtain ⟨q1, q2⟩ := idxN hi hl
  exact hr.pure fun X hx hby hown hZ eT t q => X.baloadBytes hx (j := j) (by rw [eT]; exact A.1) (State.isArrayOf_alike hZ.alike A.2.1) A.2.2 (by rw [r1]; exact q1) (by rw [q2]; exact r3 i hl) (g := mkF _ pc Ls (.int j :: .ref a :: st)) rfl rfl (hb hby hd) t q
theorem WP.baloadZ {a : Addr} {j : Int32} {n : Nat} {f : Nat → Value} {v : Value} (i : Nat) (hd : decode code pc = .ok (.baload, 1)) (hp : pc + 1 = pc') (A : Arf Z h a .boolean n f) (hi : j.toInt = (i : Int)) (hl : i < n) (hv : f i = v) (hr : WP C Z code ml own rt nm R n0 Q cl sl h pc' Ls (v :: st)) : WP C Z code ml own rt nm R n0 Q cl sl h pc Ls (.int j :: .ref a :: st) := by
  subst hp hv
  obtain ⟨c, A, r1, r2, r3, r4⟩ := A
  obtain ⟨q1, q2⟩ := idxN hi hl
  exact hr.pure fun X hx hby hown hZ eT t q => X.baloadBooleans hx (j := j) (by rw [eT]; exact A.1) (State.isArrayOf_alike hZ.alike A.2.1) A.2.2 (by rw [r1]; exact q1) (by rw [q2]; exact r3 i hl) (g := mkF _ pc Ls (.int j :: .ref a :: st)) rfl rfl (hb hby hd) t q
theorem WP.caload {a : Addr} {j : Int32} {n : Nat} {f : Nat → Value} {v : Value} (i : Nat) (hd : decode code pc = .ok (.caload, 1)) (hp : pc + 1 = pc') (A : Arf Z h a .char n f) (hi : j.toInt = (i : Int)) (hl : i < n) (hv : f i = v) (hr : WP C Z code ml own rt nm R n0 Q cl sl h pc' Ls (v :: st)) : WP C Z code ml own rt nm R n0 Q cl sl h pc Ls (.int j :: .ref a :: st) := by
  subst hp hv
  obtain ⟨c, A, r1, r2, r3, r4⟩ := A
  obtain ⟨q1, q2⟩ := idxN hi hl
  exact hr.pure fun X hx hby hown hZ eT t q => X.caload hx (j := j) (by rw [eT]; exact A.1) (State.isArrayOf_alike hZ.alike A.2.1) A.2.2 (by rw [r1]; exact q1) (by rw [q2]; exact r3 i hl) (g := mkF _ pc Ls (.int j :: .ref a :: st)) rfl rfl (hb hby hd) t q
theorem WP.iaload {a : Addr} {j : Int32} {n : Nat} {f : Nat → Value} {v : Value} (i : Nat) (hd : decode code pc = .ok (.iaload, 1)) (hp : pc + 1 = pc') (A : Arf Z h a .int n f) (hi : j.toInt = (i : Int)) (hl : i < n) (hv : f i = v) (hr : WP C Z code ml own rt nm R n0 Q cl sl h pc' Ls (v :: st)) : WP C Z code ml own rt nm R n0 Q cl sl h pc Ls (.int j :: .ref a :: st) := by
  subst hp hv
  obtain ⟨c, A, r1, r2, r3, r4⟩ := A
  obtain ⟨q1, q2⟩ := idxN hi hl
  exact hr.pure fun X hx hby hown hZ eT t q => X.iaload hx (j := j) (by rw [eT]; exact A.1) (State.isArrayOf_alike hZ.alike A.2.1) A.2.2 (by rw [r1]; exact q1) (by rw [q2]; exact r3 i hl) (g := mkF _ pc Ls (.int j :: .ref a :: st)) rfl rfl (hb hby hd) t q
theorem WP.laload {a : Addr} {j : Int32} {n : Nat} {f : Nat → Value} {v : Value} (i : Nat) (hd : decode code pc = .ok (.laload, 1)) (hp : pc + 1 = pc') (A : Arf Z h a .long n f) (hi : j.toInt = (i : Int)) (hl : i < n) (hv : f i = v) (hr : WP C Z code ml own rt nm R n0 Q cl sl h pc' Ls (v :: st)) : WP C Z code ml own rt nm R n0 Q cl sl h pc Ls (.int j :: .ref a :: st) := by
  subst hp hv
  obtain ⟨c, A, r1, r2, r3, r4⟩ := A
  obtain ⟨q1, q2⟩ := idxN hi hl
  exact hr.pure fun X hx hby hown hZ eT t q => X.laload hx (j := j) (by rw [eT]; exact A.1) (State.isArrayOf_alike hZ.alike A.2.1) A.2.2 (by rw [r1]; exact q1) (by rw [q2]; exact r3 i hl) (g := mkF _ pc Ls (.int j :: .ref a :: st)) rfl rfl (hb hby hd) t q
theorem WP.saload {a : Addr} {j : Int32} {n : Nat} {f : Nat → Value} {v : Value} (i : Nat) (hd : decode code pc = .ok (.saload, 1)) (hp : pc + 1 = pc') (A : Arf Z h a .short n f) (hi : j.toInt = (i : Int)) (hl : i < n) (hv : f i = v) (hr : WP C Z code ml own rt nm R n0 Q cl sl h pc' Ls (v :: st)) : WP C Z code ml own rt nm R n0 Q cl sl h pc Ls (.int j :: .ref a :: st) := by
  subst hp hv
  obtain ⟨c, A, r1, r2, r3, r4⟩ := A
  obtain ⟨q1, q2⟩ := idxN hi hl
  exact hr.pure fun X hx hby hown hZ eT t q => X.saload hx (j := j) (by rw [eT]; exact A.1) (State.isArrayOf_alike hZ.alike A.2.1) A.2.2 (by rw [r1]; exact q1) (by rw [q2]; exact r3 i hl) (g := mkF _ pc Ls (.int j :: .ref a :: st)) rfl rfl (hb hby hd) t q
theorem WP.aaload {a : Addr} {j : Int32} {n : Nat} {f : Nat → Value} {v : Value} {ty : FieldType} (i : Nat) (hd : decode code pc = .ok (.aaload, 1)) (hp : pc + 1 = pc') (A : Arf Z h a ty n f) (hty : ty.isReference = true) (hi : j.toInt = (i : Int)) (hl : i < n) (hv : f i = v) (hr : WP C Z code ml own rt nm R n0 Q cl sl h pc' Ls (v :: st)) : WP C Z code ml own rt nm R n0 Q cl sl h pc Ls (.int j :: .ref a :: st) := by
  subst hp hv
  obtain ⟨c, A, r1, r2, r3, r4⟩ := A
  obtain ⟨q1, q2⟩ := idxN hi hl
  exact hr.pure fun X hx hby hown hZ eT t q => X.aaload hx (j := j) (by rw [eT]; exact A.1) (State.isArrayOf_alike hZ.alike A.2.1) hty A.2.2 (by rw [r1]; exact q1) (by rw [q2]; exact r3 i hl) (g := mkF _ pc Ls (.int j :: .ref a :: st)) rfl rfl (hb hby hd) t q
theorem WP.arraylength {a : Addr} {n : Nat} {f : Nat → Value} {ty : FieldType} {z : Int32} (hd : decode code pc = .ok (.arraylength, 1)) (hp : pc + 1 = pc') (A : Arf Z h a ty n f) (hz : n.toInt32 = z) (hr : WP C Z code ml own rt nm R n0 Q cl sl h pc' Ls (.int z :: st)) : WP C Z code ml own rt nm R n0 Q cl sl h pc Ls (.ref a :: st) := by
  subst hp hz
  obtain ⟨c, A, r1, r2, r3, r4⟩ := A
  exact hr.pure fun X hx hby hown hZ eT t q => X.arraylength hx (by rw [eT]; exact A.1) (State.isArrayOf_alike hZ.alike A.2.1) (g := mkF _ pc Ls (.ref a :: st)) rfl rfl (hb hby hd) t (by rw [r1]; exact q)
theorem Arf.set {h' : Heap} {a : Addr} {ty : FieldType} {n : Nat} {f : Nat → Value} {c : Cell} {v : Value} {j : Int32} {i : Nat} (A : Arr Z h a c ty) (r1 : c.slots.size = n) (r2 : n < 2147483648) (r3 : ∀ i, i < n → c.slots[i]? = some (f i)) (r4 : ∀ i, i < n → fits ty (f i) = true) (hv : fits ty v = true) (W : Wr h h' a j.toNatClampNeg v) (hj : j.toNatClampNeg = i) (hl : i < n) : Arf Z h' a ty n (fun k => if k = i then v else f k) := by
  subst hj
  refine ⟨_, A.same W, by rw [sz_set]; exact r1, r2, fun k hk => ?_, fun k hk => ?_⟩
  · by_cases e : k = j.toNatClampNeg
    · show _ = some (if k = j.toNatClampNeg then v else f k)
      rw [if_pos e, e]; simp [Cell.setSlot, r1, hl]
    · show _ = some (if k = j.toNatClampNeg then v else f k)
      rw [if_neg e, ← r3 k hk]; exact Array.getElem?_setIfInBounds_ne (Ne.symm e)
  · by_cases e : k = j.toNatClampNeg
    · simp only [if_pos e]; exact hv
    · simp only [if_neg e]; exact r4 k hk
theorem WP.bastore {a : Addr} {j : Int32} {x : Int32} {n : Nat} {f : Nat → Value} (i : Nat) (hd : decode code pc = .ok (.bastore, 1)) (hp : pc + 1 = pc') (A : Arf Z h a .byte n f) (hi : j.toInt = (i : Int)) (hl : i < n) (ge : n0 ≤ a) (hr : ∀ h', Keep h h' [a] → Arf Z h' a .byte n (fun k => if k = i then .int (nar .byte x) else f k) → WP C Z code ml own rt nm R n0 Q cl sl h' pc' Ls st) : WP C Z code ml own rt nm R n0 Q cl sl h pc Ls (.int x :: .int j :: .ref a :: st) := by
  subst hp
  obtain ⟨c, A, r1, r2, r3, r4⟩ := A
  obtain ⟨q1, q2⟩ := idxN hi hl
  intro k1 k2 k3 k4 k5 k6 k7 k8 T locs X e N
  obtain ⟨T', h', X', e', W', k⟩ := stB X k1 k5 e A (j := j) (x := x) (by rw [r1]; exact q1) (g := mkF _ pc Ls (.int x :: .int j :: .ref a :: st)) rfl rfl (hb k2 hd)
  obtain ⟨s₂, v', L', h1, h2⟩ := hr h' (Keep.of_wr W') (Arf.set A r1 r2 r3 r4 (fits_nar_byte x) W' q2 hl) k1 k2 k3 k4 k5 k6 k7 k8 T' _ X' e' (Fr.snoc X' N ge)
  exact ⟨s₂, v', L', k _ h1, h2⟩
theorem WP.castore {a : Addr} {j : Int32} {x : Int32} {n : Nat} {f : Nat → Value} (i : Nat) (hd : decode code pc = .ok (.castore, 1)) (hp : pc + 1 = pc') (A : Arf Z h a .char n f) (hi : j.toInt = (i : Int)) (hl : i < n) (ge : n0 ≤ a) (hr : ∀ h', Keep h h' [a] → Arf Z h' a .char n (fun k => if k = i then .int (nar .char x) else f k) → WP C Z code ml own rt nm R n0 Q cl sl h' pc' Ls st) : WP C Z code ml own rt nm R n0 Q cl sl h pc Ls (.int x :: .int j :: .ref a :: st) := by
  subst hp
  obtain ⟨c, A, r1, r2, r3, r4⟩ := A
  obtain ⟨q1, q2⟩ := idxN hi hl
  intro k1 k2 k3 k4 k5 k6 k7 k8 T locs X e N
  obtain ⟨T', h', X', e', W', k⟩ := stC X k1 k5 e A (j := j) (x := x) (by rw [r1]; exact q1) (g := mkF _ pc Ls (.int x :: .int j :: .ref a :: st)) rfl rfl (hb k2 hd)
  obtain ⟨s₂, v', L', h1, h2⟩ := hr h' (Keep.of_wr W') (Arf.set A r1 r2 r3 r4 (fits_nar_char x) W' q2 hl) k1 k2 k3 k4 k5 k6 k7 k8 T' _ X' e' (Fr.snoc X' N ge)
  exact ⟨s₂, v', L', k _ h1, h2⟩
theorem WP.iastore {a : Addr} {j : Int32} {x : Int32} {n : Nat} {f : Nat → Value} (i : Nat) (hd : decode code pc = .ok (.iastore, 1)) (hp : pc + 1 = pc') (A : Arf Z h a .int n f) (hi : j.toInt = (i : Int)) (hl : i < n) (ge : n0 ≤ a) (hr : ∀ h', Keep h h' [a] → Arf Z h' a .int n (fun k => if k = i then .int x else f k) → WP C Z code ml own rt nm R n0 Q cl sl h' pc' Ls st) : WP C Z code ml own rt nm R n0 Q cl sl h pc Ls (.int x :: .int j :: .ref a :: st) := by
  subst hp
  obtain ⟨c, A, r1, r2, r3, r4⟩ := A
  obtain ⟨q1, q2⟩ := idxN hi hl
  intro k1 k2 k3 k4 k5 k6 k7 k8 T locs X e N
  obtain ⟨T', h', X', e', W', k⟩ := stI X k1 k5 e A (j := j) (x := x) (by rw [r1]; exact q1) (g := mkF _ pc Ls (.int x :: .int j :: .ref a :: st)) rfl rfl (hb k2 hd)
  obtain ⟨s₂, v', L', h1, h2⟩ := hr h' (Keep.of_wr W') (Arf.set A r1 r2 r3 r4 rfl W' q2 hl) k1 k2 k3 k4 k5 k6 k7 k8 T' _ X' e' (Fr.snoc X' N ge)
  exact ⟨s₂, v', L', k _ h1, h2⟩
theorem WP.lastore {a : Addr} {j : Int32} {x : Int64} {n : Nat} {f : Nat → Value} (i : Nat) (hd : decode code pc = .ok (.lastore, 1)) (hp : pc + 1 = pc') (A : Arf Z h a .long n f) (hi : j.toInt = (i : Int)) (hl : i < n) (ge : n0 ≤ a) (hr : ∀ h', Keep h h' [a] → Arf Z h' a .long n (fun k => if k = i then .long x else f k) → WP C Z code ml own rt nm R n0 Q cl sl h' pc' Ls st) : WP C Z code ml own rt nm R n0 Q cl sl h pc Ls (.long x :: .int j :: .ref a :: st) := by
  subst hp
  obtain ⟨c, A, r1, r2, r3, r4⟩ := A
  obtain ⟨q1, q2⟩ := idxN hi hl
  intro k1 k2 k3 k4 k5 k6 k7 k8 T locs X e N
  obtain ⟨T', h', X', e', W', k⟩ := stJ X k1 k5 e A (j := j) (x := x) (by rw [r1]; exact q1) (g := mkF _ pc Ls (.long x :: .int j :: .ref a :: st)) rfl rfl (hb k2 hd)
  obtain ⟨s₂, v', L', h1, h2⟩ := hr h' (Keep.of_wr W') (Arf.set A r1 r2 r3 r4 rfl W' q2 hl) k1 k2 k3 k4 k5 k6 k7 k8 T' _ X' e' (Fr.snoc X' N ge)
  exact ⟨s₂, v', L', k _ h1, h2⟩
theorem WP.newP {aty : ArrayType} {z : Int32} {n cap : Nat} {cl' sl' : Nat} (hd : decode code pc = .ok (.newarray aty, 2)) (hp : pc + 2 = pc') (w : (Jvm.Cond.arrayClass (newarray.typeOf aty)).before a0 Z = true) (hz : z.toInt = (n : Int)) (hcap : n ≤ cap) (hbig : cap * 8 ≤ 536870912) (hc : cl + 1 = cl') (hs : sl + cap = sl') (hc' : cl' ≤ R.cells) (hs' : sl' ≤ R.slots)
    (hr : ∀ h' a, a = h.size → Ext h h' → Arf Z h' a (newarray.typeOf aty) n (fun _ => defaultValue (newarray.typeOf aty)) → WP C Z code ml own rt nm R n0 Q cl' sl' h' pc' Ls (.ref a :: st)) : WP C Z code ml own rt nm R n0 Q cl sl h pc Ls (.int z :: st) := by
  subst hp hc hs
  have e0 : (0 : Int32).toInt = 0 := rfl
  have hzn : z.toNatClampNeg = n := by simp only [Int32.toNatClampNeg, hz]; omega
  have hzl : n < 2147483648 := by have := z.toInt_lt; omega
  intro k1 k2 k3 k4 k5 k6 k7 k8 T locs X e N
  obtain ⟨T', h', cA, X', e', E', A', k⟩ := RoadKit.newP X k1 k5 w e (g := mkF _ pc Ls (.int z :: st)) rfl (hb k2 hd) rfl (by rw [Int32.lt_iff_toInt_lt, hz, e0]; omega) (cap := cap) (by rw [hzn]; exact hcap) hbig hc' hs'
  obtain ⟨s₂, v', L', h1, h2⟩ := hr h' _ rfl E' ⟨_, A', by rw [sz_new, hzn], hzl, fun i hi => by simp [newA, hzn, hi], fun i _ => by cases aty <;> rfl⟩ k1 k2 k3 k4 k5 k6 k7 k8 T' _ X' e' N
  exact ⟨s₂, v', L', k _ h1, h2⟩
def updI (g : Nat → Int32) (i : Nat) (x : Int32) : Nat → Int32 := fun k => if k = i then x else g k
def Ari (Z : State) (h : Heap) (a : Addr) (ty : FieldType) (n : Nat) (g : Nat → Int32) : Prop := Arf Z h a ty n (fun i => .int (g i))
theorem Ari.lt {a : Addr} {ty : FieldType} {n : Nat} {g : Nat → Int32} (A : Ari Z h a ty n g) : a < h.size := Arf.lt A
theorem Ari.small {a : Addr} {ty : FieldType} {n : Nat} {g : Nat → Int32} (A : Ari Z h a ty n g) : n < 2147483648 := Arf.small A
theorem Ari.keep {h' : Heap} {ws : List Addr} {a : Addr} {ty : FieldType} {n : Nat} {g : Nat → Int32} (A : Ari Z h a ty n g) (K : Keep h h' ws) (q : a ∉ ws) : Ari Z h' a ty n g := Arf.keep A K q
theorem Ari.ext {h' : Heap} {a : Addr} {ty : FieldType} {n : Nat} {g : Nat → Int32} (A : Ari Z h a ty n g) (E : Ext h h') : Ari Z h' a ty n g := Arf.ext A E
theorem Ari.congr {a : Addr} {ty : FieldType} {n : Nat} {f g : Nat → Int32} (A : Ari Z h a ty n f) (q : ∀ i, i < n → f i = g i) : Ari Z h a ty n g := Arf.congr A fun i hi => congrArg Value.int (q i hi)
theorem upd_at (g : Nat → Int32) (i : Nat) (x : Int32) : updI g i x i = x := if_pos rfl
theorem upd_ne {g : Nat → Int32} {i k : Nat} {x : Int32} (q : k ≠ i) : updI g i x k = g k := if_neg q
theorem upd_if (g : Nat → Int32) (i : Nat) (x : Int32) : (fun k => if k = i then Value.int x else Value.int (g k)) = fun k => Value.int (updI g i x k) := by funext k; unfold updI; split <;> rfl
theorem litN (z : Int32) (n : Nat) (h : z.toInt = (n : Int)) : z.toInt = (n : Int) := h
theorem WP.baloadI {a : Addr} {j : Int32} {n : Nat} {g : Nat → Int32} {v : Int32} (i : Nat) (hd : decode code pc = .ok (.baload, 1)) (hp : pc + 1 = pc') (A : Ari Z h a .byte n g) (hi : j.toInt = (i : Int)) (hl : i < n) (hv : g i = v) (hr : WP C Z code ml own rt nm R n0 Q cl sl h pc' Ls (.int v :: st)) : WP C Z code ml own rt nm R n0 Q cl sl h pc Ls (.int j :: .ref a :: st) := WP.baload i hd hp A hi hl (congrArg Value.int hv) hr
theorem WP.baloadZI {a : Addr} {j : Int32} {n : Nat} {g : Nat → Int32} {v : Int32} (i : Nat) (hd : decode code pc = .ok (.baload, 1)) (hp : pc + 1 = pc') (A : Ari Z h a .boolean n g) (hi : j.toInt = (i : Int)) (hl : i < n) (hv : g i = v) (hr : WP C Z code ml own rt nm R n0 Q cl sl h pc' Ls (.int v :: st)) : WP C Z code ml own rt nm R n0 Q cl sl h pc Ls (.int j :: .ref a :: st) := WP.baloadZ i hd hp A hi hl (congrArg Value.int hv) hr
theorem WP.caloadI {a : Addr} {j : Int32} {n : Nat} {g : Nat → Int32} {v : Int32} (i : Nat) (hd : decode code pc = .ok (.caload, 1)) (hp : pc + 1 = pc') (A : Ari Z h a .char n g) (hi : j.toInt = (i : Int)) (hl : i < n) (hv : g i = v) (hr : WP C Z code ml own rt nm R n0 Q cl sl h pc' Ls (.int v :: st)) : WP C Z code ml own rt nm R n0 Q cl sl h pc Ls (.int j :: .ref a :: st) := WP.caload i hd hp A hi hl (congrArg Value.int hv) hr
theorem WP.ialoadI {a : Addr} {j : Int32} {n : Nat} {g : Nat → Int32} {v : Int32} (i : Nat) (hd : decode code pc = .ok (.iaload, 1)) (hp : pc + 1 = pc') (A : Ari Z h a .int n g) (hi : j.toInt = (i : Int)) (hl : i < n) (hv : g i = v) (hr : WP C Z code ml own rt nm R n0 Q cl sl h pc' Ls (.int v :: st)) : WP C Z code ml own rt nm R n0 Q cl sl h pc Ls (.int j :: .ref a :: st) := WP.iaload i hd hp A hi hl (congrArg Value.int hv) hr
theorem WP.saloadI {a : Addr} {j : Int32} {n : Nat} {g : Nat → Int32} {v : Int32} (i : Nat) (hd : decode code pc = .ok (.saload, 1)) (hp : pc + 1 = pc') (A : Ari Z h a .short n g) (hi : j.toInt = (i : Int)) (hl : i < n) (hv : g i = v) (hr : WP C Z code ml own rt nm R n0 Q cl sl h pc' Ls (.int v :: st)) : WP C Z code ml own rt nm R n0 Q cl sl h pc Ls (.int j :: .ref a :: st) := WP.saload i hd hp A hi hl (congrArg Value.int hv) hr
theorem WP.bastoreI {a : Addr} {j x x' : Int32} {n : Nat} {g : Nat → Int32} (i : Nat) (hd : decode code pc = .ok (.bastore, 1)) (hp : pc + 1 = pc') (A : Ari Z h a .byte n g) (hi : j.toInt = (i : Int)) (hl : i < n) (ge : n0 ≤ a) (hx : nar .byte x = x') (hr : ∀ h', Keep h h' [a] → Ari Z h' a .byte n (updI g i x') → WP C Z code ml own rt nm R n0 Q cl sl h' pc' Ls st) : WP C Z code ml own rt nm R n0 Q cl sl h pc Ls (.int x :: .int j :: .ref a :: st) := by
  subst hx
  exact WP.bastore i hd hp A hi hl ge fun h' K A' => hr h' K (by unfold Ari; rw [← upd_if]; exact A')
theorem WP.castoreI {a : Addr} {j x x' : Int32} {n : Nat} {g : Nat → Int32} (i : Nat) (hd : decode code pc = .ok (.castore, 1)) (hp : pc + 1 = pc') (A : Ari Z h a .char n g) (hi : j.toInt = (i : Int)) (hl : i < n) (ge : n0 ≤ a) (hx : nar .char x = x') (hr : ∀ h', Keep h h' [a] → Ari Z h' a .char n (updI g i x') → WP C Z code ml own rt nm R n0 Q cl sl h' pc' Ls st) : WP C Z code ml own rt nm R n0 Q cl sl h pc Ls (.int x :: .int j :: .ref a :: st) := by
  subst hx
  exact WP.castore i hd hp A hi hl ge fun h' K A' => hr h' K (by unfold Ari; rw [← upd_if]; exact A')
theorem WP.iastoreI {a : Addr} {j x x' : Int32} {n : Nat} {g : Nat → Int32} (i : Nat) (hd : decode code pc = .ok (.iastore, 1)) (hp : pc + 1 = pc') (A : Ari Z h a .int n g) (hi : j.toInt = (i : Int)) (hl : i < n) (ge : n0 ≤ a) (hx : x = x') (hr : ∀ h', Keep h h' [a] → Ari Z h' a .int n (updI g i x') → WP C Z code ml own rt nm R n0 Q cl sl h' pc' Ls st) : WP C Z code ml own rt nm R n0 Q cl sl h pc Ls (.int x :: .int j :: .ref a :: st) := by
  subst hx
  exact WP.iastore i hd hp A hi hl ge fun h' K A' => hr h' K (by unfold Ari; rw [← upd_if]; exact A')
theorem WP.newPI {aty : ArrayType} {ty : FieldType} {z : Int32} {n cap : Nat} {cl' sl' : Nat} (hd : decode code pc = .ok (.newarray aty, 2)) (hp : pc + 2 = pc') (hty : newarray.typeOf aty = ty) (hdv : defaultValue ty = .int 0) (w : (Jvm.Cond.arrayClass ty).before a0 Z = true) (hz : z.toInt = (n : Int)) (hcap : n ≤ cap) (hbig : cap * 8 ≤ 536870912) (hc : cl + 1 = cl') (hs : sl + cap = sl') (hc' : cl' ≤ R.cells) (hs' : sl' ≤ R.slots)
    (hr : ∀ h' a, a = h.size → Ext h h' → Ari Z h' a ty n (fun _ => 0) → WP C Z code ml own rt nm R n0 Q cl' sl' h' pc' Ls (.ref a :: st)) : WP C Z code ml own rt nm R n0 Q cl sl h pc Ls (.int z :: st) := by
  subst hty
  exact WP.newP hd hp w hz hcap hbig hc hs hc' hs' fun h' a e E A => hr h' a e E (by rw [hdv] at A; exact A)
theorem WP.arraylengthI {a : Addr} {n : Nat} {g : Nat → Int32} {ty : FieldType} {z : Int32} (hd : decode code pc = .ok (.arraylength, 1)) (hp : pc + 1 = pc') (A : Ari Z h a ty n g) (hz : n.toInt32 = z) (hr : WP C Z code ml own rt nm R n0 Q cl sl h pc' Ls (.int z :: st)) : WP C Z code ml own rt nm R n0 Q cl sl h pc Ls (.ref a :: st) := WP.arraylength hd hp A hz hr
/-- the array's class is that of arrays of C -/
def Ocl (Z : State) (h : Heap) (a : Addr) (K : String) : Prop := ∃ c : Cell, h[a]? = some c ∧ Ovr Z c.cls K
theorem Ocl.ext {h' : Heap} {a : Addr} {K : String} (O : Ocl Z h a K) (E : Ext h h') : Ocl Z h' a K := by obtain ⟨c, h1, h2⟩ := O; exact ⟨c, E.2 _ _ h1, h2⟩
theorem Ocl.keep {h' : Heap} {ws : List Addr} {a : Addr} {K : String} (O : Ocl Z h a K) (E : Keep h h' ws) : Ocl Z h' a K := by
  obtain ⟨c, h1, h2⟩ := O
  obtain ⟨c', q1, q2, -⟩ := E.2.2 _ _ h1
  exact ⟨c', q1, by rw [q2]; exact h2⟩
theorem Ocl.sto {a y : Addr} {K : String} {ty : FieldType} {n : Nat} {f : Nat → Value} (O : Ocl Z h a K) (A : Arf Z h a ty n f) (I : Ins Z h y K true) : Sto Z h a (.ref y) := by
  obtain ⟨c, h1, h2⟩ := O
  obtain ⟨c', A, -⟩ := A
  cases h1.symm.trans A.1
  exact Sto.of A h2 I
def updV (g : Nat → Value) (i : Nat) (x : Value) : Nat → Value := fun k => if k = i then x else g k
theorem WP.newR {i n cap : Nat} {K : String} {z : Int32} {cl' sl' : Nat} (hd : decode code pc = .ok (.anewarray i, 3)) (hp : pc + 3 = pc') (w1 : (Jvm.Cond.classLink own i K).before a0 Z = true) (w2 : (Jvm.Cond.arrayOver (.object K)).before a0 Z = true) (hz : z.toInt = (n : Int)) (hcap : n ≤ cap) (hbig : cap * 8 ≤ 536870912) (hc : cl + 1 = cl') (hs : sl + cap = sl') (hc' : cl' ≤ R.cells) (hs' : sl' ≤ R.slots)
    (hr : ∀ h' a, a = h.size → Ext h h' → Arf Z h' a (.object K) n (fun _ => .null) → Ocl Z h' a K → WP C Z code ml own rt nm R n0 Q cl' sl' h' pc' Ls (.ref a :: st)) : WP C Z code ml own rt nm R n0 Q cl sl h pc Ls (.int z :: st) := by
  subst hp hc hs
  have e0 : (0 : Int32).toInt = 0 := rfl
  have hzn : z.toNatClampNeg = n := by simp only [Int32.toNatClampNeg, hz]; omega
  have hzl : n < 2147483648 := by have := z.toInt_lt; omega
  intro k1 k2 k3 k4 k5 k6 k7 k8 T locs X e N
  obtain ⟨T', h', cA, X', e', E', A', O', k⟩ := RoadKit.newR X k1 k5 k4 w1 w2 e (g := mkF _ pc Ls (.int z :: st)) rfl (hb k2 hd) rfl (by rw [Int32.lt_iff_toInt_lt, hz, e0]; omega) (cap := cap) (by rw [hzn]; exact hcap) hbig hc' hs'
  obtain ⟨s₂, v', L', h1, h2⟩ := hr h' _ rfl E' ⟨_, A', by rw [sz_new, hzn], hzl, fun i hi => by simp [newA, hzn, hi, defaultValue], fun i _ => rfl⟩ ⟨_, A'.1, O'⟩ k1 k2 k3 k4 k5 k6 k7 k8 T' _ X' e' N
  exact ⟨s₂, v', L', k _ h1, h2⟩
theorem WP.aastore {a : Addr} {j : Int32} {x : Value} {n : Nat} {f : Nat → Value} {ty : FieldType} (i : Nat) (hd : decode code pc = .ok (.aastore, 1)) (hp : pc + 1 = pc') (A : Arf Z h a ty n f) (hty : ty.isReference = true) (F : Sto Z h a x) (hf : fits ty x = true) (hi : j.toInt = (i : Int)) (hl : i < n) (ge : n0 ≤ a) (hr : ∀ h', Keep h h' [a] → Arf Z h' a ty n (updV f i x) → WP C Z code ml own rt nm R n0 Q cl sl h' pc' Ls st) : WP C Z code ml own rt nm R n0 Q cl sl h pc Ls (x :: .int j :: .ref a :: st) := by
  subst hp
  obtain ⟨c, A, r1, r2, r3, r4⟩ := A
  obtain ⟨q1, q2⟩ := idxN hi hl
  intro k1 k2 k3 k4 k5 k6 k7 k8 T locs X e N
  obtain ⟨T', h', X', e', W', k⟩ := stR X k1 k5 e A (j := j) (by rw [r1]; exact q1) hty F (g := mkF _ pc Ls (x :: .int j :: .ref a :: st)) rfl rfl (hb k2 hd)
  obtain ⟨s₂, v', L', h1, h2⟩ := hr h' (Keep.of_wr W') (Arf.set A r1 r2 r3 r4 hf W' q2 hl) k1 k2 k3 k4 k5 k6 k7 k8 T' _ X' e' (Fr.snoc X' N ge)
  exact ⟨s₂, v', L', k _ h1, h2⟩
theorem getD_range {f : Nat → Int32} {m n : Nat} (h : m < n) : ((List.range n).map fun i => Value.int (f i)).getD m (.int 0) = .int (f m) := by
  simp [List.getD_eq_getElem?_getD, h]
theorem Ari.arv {a : Addr} {ty : FieldType} {n : Nat} {g : Nat → Int32} (A : Ari Z h a ty n g) : ∃ (k : ClassId) (z : Int32), z.toNatClampNeg = n ∧ Arv Z h a k ty z ((List.range n).map fun i => Value.int (g i)) (.int 0) := by
  obtain ⟨c, A, r1, r2, r3, r4⟩ := A
  have e1 : n.toInt32.toInt = (n : Int) := len_toInt r2
  have e0 : (0 : Int32).toInt = 0 := rfl
  have e2 : n.toInt32.toNatClampNeg = n := by simp only [Int32.toNatClampNeg, e1]; omega
  refine ⟨c.cls, n.toInt32, e2, c, A, rfl, by rw [e2]; exact r1, by rw [Int32.lt_iff_toInt_lt, e1, e0]; omega, fun i hi => ?_, fun i hi => ?_⟩
  · rw [r1] at hi; rw [getD_range hi]; exact r3 i hi
  · rw [r1] at hi; rw [getD_range hi]; exact r4 i hi
/-- n elements of f from sp on, laid into g from dp on -/
def blit (f g : Nat → Int32) (sp dp n : Nat) : Nat → Int32 := fun k => if dp ≤ k ∧ k < dp + n then f (sp + (k - dp)) else g k
theorem WP.arraycopy {i : Nat} {a b : Addr} {ty : FieldType} {na nb sp dp nn wd : Nat} {zs zd zn : Int32} {f g : Nat → Int32} (hd : decode code pc = .ok (.invokestatic i, 3)) (hp : pc + 3 = pc') (w1 : (Jvm.Cond.methodLink own i Jvm.Stand.acN).before a0 Z = true) (w2 : (Jvm.Cond.native Jvm.Stand.acN).before a0 Z = true) (w3 : (Jvm.Cond.static Jvm.Stand.acN).before a0 Z = true) (w4 : (Jvm.Cond.initialized "java/lang/System").before a0 Z = true) (A : Ari Z h a ty na f) (B : Ari Z h b ty nb g) (hty : refKind ty = false) (hs1 : zs.toInt = (sp : Int)) (hd1 : zd.toInt = (dp : Int)) (hn1 : zn.toInt = (nn : Int)) (h4 : sp + nn ≤ na) (h5 : dp + nn ≤ nb) (ge : n0 ≤ b) (hml : Ls.size = ml) (hf : 1 ≤ R.frames) (hw : (st.map fun v => v.category).sum ≤ wd) (hlo : wd + (nativeFrameWords "java/lang/System" "arraycopy" 5 + 11) ≤ R.locals)
    (hr : ∀ h', Keep h h' [b] → Ari Z h' b ty nb (blit f g sp dp nn) → WP C Z code ml own rt nm R n0 Q cl sl h' pc' Ls st) : WP C Z code ml own rt nm R n0 Q cl sl h pc Ls (.int zn :: .int zd :: .ref b :: .int zs :: .ref a :: st) := by
  subst hp
  obtain ⟨ka, za, ea, A'⟩ := A.arv
  obtain ⟨kb, zb, eb, B'⟩ := B.arv
  have hsm := B.small
  have e0 : (0 : Int32).toInt = 0 := rfl
  have q1 : zs.toNatClampNeg = sp := by simp only [Int32.toNatClampNeg, hs1]; omega
  have q2 : zd.toNatClampNeg = dp := by simp only [Int32.toNatClampNeg, hd1]; omega
  have q3 : zn.toNatClampNeg = nn := by simp only [Int32.toNatClampNeg, hn1]; omega
  intro k1 k2 k3 k4 k5 k6 k7 k8 T locs X e N
  obtain ⟨T', h', L', X', e', N', K', V', k⟩ := cpA X k1 k5 k4 w1 w2 w3 w4 e (sp := zs) (dp := zd) (nn := zn) A' B' (Or.inl ⟨rfl, hty⟩) (by rw [Int32.lt_iff_toInt_lt, hs1, e0]; omega) (by rw [Int32.lt_iff_toInt_lt, hd1, e0]; omega) (by rw [Int32.lt_iff_toInt_lt, hn1, e0]; omega) (by rw [q1, q3, ea]; exact h4) (by rw [q2, q3, eb]; exact h5) rfl (by rw [q2, q3, List.length_map, List.length_range]; exact h5) N ge (g := mkF _ pc Ls (.int zn :: .int zd :: .ref b :: .int zs :: .ref a :: st)) rfl (by rw [k3]; exact hml) rfl (hb k2 hd) hf (W := wd) (by show 2 * 0 + _ ≤ _; omega) hlo
  rw [q1, q2, q3] at V'
  have VV : Ari Z h' b ty nb (blit f g sp dp nn) := by
    obtain ⟨c, A, r1, r2, r3, H, G⟩ := V'
    rw [eb] at r2
    have key : ∀ i, i < nb → (((List.range nb).map fun i => Value.int (g i)).take dp ++ (List.range nn).map (fun i => ((List.range na).map fun i => Value.int (f i)).getD (sp + i) (.int 0)) ++ ((List.range nb).map fun i => Value.int (g i)).drop (dp + nn)).getD i (.int 0) = .int (blit f g sp dp nn i) := by
      intro i hi
      simp only [List.getD_eq_getElem?_getD, blit]
      by_cases c1 : i < dp
      · rw [List.append_assoc, List.getElem?_append_left (by simp; omega), if_neg (by omega)]; simp [List.getElem?_take, c1, hi]
      · by_cases c2 : i < dp + nn
        · rw [List.getElem?_append_left (by simp; omega), List.getElem?_append_right (by simp; omega), if_pos (by omega)]
          have z1 : min dp nb = dp := by omega
          have z2 : i - dp < nn := by omega
          have z3 : sp + (i - dp) < na := by omega
          simp [z1, z2, z3]
        · rw [List.getElem?_append_right (by simp; omega), if_neg (by omega)]
          have z1 : min dp nb = dp := by omega
          have z2 : dp + nn + (i - (dp + nn)) = i := by omega
          simp [z1, z2, hi]
    exact ⟨c, A, r2, hsm, fun i hi => by rw [H i (by rw [r2]; exact hi), key i hi], fun i hi => by have := G i (by rw [r2]; exact hi); rw [key i hi] at this; exact this⟩
  obtain ⟨s₂, v', L2, h1, h2⟩ := hr h' K' VV k1 k2 k3 k4 k5 k6 k7 k8 T' _ X' e' N'
  exact ⟨s₂, v', L2, k _ h1, h2⟩
theorem WP.initO {i : Nat} {a : Addr} {wd : Nat} (hd : decode code pc = .ok (.invokespecial i, 3)) (hp : pc + 3 = pc') (w1 : (Jvm.Cond.methodLink own i Lib.objectInit).before a0 Z = true) (w2 : (Jvm.Cond.instanceMethod Lib.objectInit).before a0 Z = true) (w3 : (Jvm.Cond.code Lib.objectInit ⟨#[0xb1]⟩ 1 none).before a0 Z = true) (hml : Ls.size = ml) (hf : 1 ≤ R.frames) (hw : (st.map fun v => v.category).sum ≤ wd) (hl : wd + 12 ≤ R.locals) (hr : WP C Z code ml own rt nm R n0 Q cl sl h pc' Ls st) : WP C Z code ml own rt nm R n0 Q cl sl h pc Ls (.ref a :: st) := by
  subst hp
  refine hr.step fun X hx hby hml' hown hZ hnm eT N => ?_
  obtain ⟨T', X', e', k⟩ := RoadKit.initO X hx hZ hown w1 w2 w3 eT (g := mkF _ pc Ls (.ref a :: st)) rfl (by rw [hml']; exact hml) rfl (hb hby hd) hf (W := wd) (by show 2 * 0 + _ ≤ _; omega) hl
  exact ⟨T', _, X', e', N, fun t q => k t q⟩
theorem WP.callS {i : Nat} {y : MethodName} {code' : ByteArray} {ml' wd cl' sl' : Nat} {rt' : Option FieldType} {R' : Room} {Q' : Option Value → Heap → Prop} {argsL rest : List Value} {ps : List FieldType} {rr : Option FieldType} (hd : decode code pc = .ok (.invokestatic i, 3)) (hp : pc + 3 = pc') (w1 : (Jvm.Cond.methodLink own i y).before a0 Z = true) (w2 : (Jvm.Cond.static y).before a0 Z = true) (w3 : (Jvm.Cond.initialized y.cls).before a0 Z = true) (w4 : (Jvm.Cond.code y code' ml' rt').before a0 Z = true) (hy : y.cls ≠ "java/lang/invoke/MethodHandle" ∧ y.cls ≠ "java/lang/invoke/VarHandle") (hM : ∀ l, Does l Z y code' ml' rt' R' n0 argsL.toArray h Q') (hpd : parseMethodDescriptor y.desc = some ⟨ps, rr⟩) (hlen : argsL.length = ps.length) (hst : st = argsL.reverse ++ rest) (hml : Ls.size = ml) (hw : (rest.map fun v => v.category).sum ≤ wd) (hrm : R'.frames + 1 ≤ R.frames) (hlo : wd + (ml' + 11) + R'.locals ≤ R.locals) (hc : cl + R'.cells = cl') (hs : sl + R'.slots = sl') (hc' : cl' ≤ R.cells) (hs' : sl' ≤ R.slots)
    (hr : ∀ v h', Q' v h' → WP C Z code ml own rt nm R n0 Q cl' sl' h' pc' Ls (v.toList ++ rest)) : WP C Z code ml own rt nm R n0 Q cl sl h pc Ls st := by
  subst hp hc hs
  intro k1 k2 k3 k4 k5 k6 k7 k8 T locs X e N
  obtain ⟨v, _, ⟨T', L', c', n'⟩, -, X', ⟨Lc, hQ, l1, y1, z1⟩, k⟩ := Jvm.LawKit.callS X k1 (y := y) k4 (mvT k5 w1) (mvT k5 w2) (mvT k5 w3) (mvT k5 w4) hy (backOf (W := wd) (Q := fun v h L => Q' v h ∧ Fr n0 L) (hM _ []) k5 w4 w3 hrm hlo) (g := mkF _ pc Ls st) rfl (by rw [k3]; exact hml) (argsL := argsL) (rest := rest) (lenOf hpd hlen) hst (by show 2 * 0 + _ ≤ _; omega) (hb k2 hd) (fun _ _ => ⟨rfl, e, hc', hs'⟩)
  dsimp only [Pt.U, Pt.locs, Pt.cells, Pt.slots] at X' l1 y1 z1 k hQ
  subst l1 y1 z1
  obtain ⟨s₂, v', L2, h1, h2⟩ := hr v _ hQ.1 k1 k2 k3 k4 k5 k6 k7 k8 T' _ X' rfl (Fr.app N hQ.2)
  exact ⟨s₂, v', L2, k _ h1, h2⟩
theorem WP.callI {a : Addr} {i : Nat} {y : MethodName} {code' : ByteArray} {ml' wd cl' sl' : Nat} {R' : Room} {Q' : Option Value → Heap → Prop} {argsL rest : List Value} {ps : List FieldType} {rr : Option FieldType} (hd : decode code pc = .ok (.invokespecial i, 3)) (hp : pc + 3 = pc') (hy1 : y.name = "<init>") (w1 : (Jvm.Cond.methodLink own i y).before a0 Z = true) (w2 : (Jvm.Cond.instanceMethod y).before a0 Z = true) (w3 : (Jvm.Cond.initialized y.cls).before a0 Z = true) (w4 : (Jvm.Cond.code y code' ml' none).before a0 Z = true) (hy : y.cls ≠ "java/lang/invoke/MethodHandle" ∧ y.cls ≠ "java/lang/invoke/VarHandle") (hM : ∀ l, Does l Z y code' ml' none R' n0 (.ref a :: argsL).toArray h Q') (hpd : parseMethodDescriptor y.desc = some ⟨ps, rr⟩) (hlen : argsL.length = ps.length) (hst : st = argsL.reverse ++ .ref a :: rest) (hml : Ls.size = ml) (hw : (rest.map fun v => v.category).sum ≤ wd) (hrm : R'.frames + 1 ≤ R.frames) (hlo : wd + (ml' + 11) + R'.locals ≤ R.locals) (hc : cl + R'.cells = cl') (hs : sl + R'.slots = sl') (hc' : cl' ≤ R.cells) (hs' : sl' ≤ R.slots)
    (hr : ∀ v h', Q' v h' → WP C Z code ml own rt nm R n0 Q cl' sl' h' pc' Ls (v.toList ++ rest)) : WP C Z code ml own rt nm R n0 Q cl sl h pc Ls st := by
  subst hp hc hs
  intro k1 k2 k3 k4 k5 k6 k7 k8 T locs X e N
  obtain ⟨v, _, ⟨T', L', c', n'⟩, -, X', ⟨Lc, hQ, l1, y1, z1⟩, k⟩ := X.specialBack k1 (y := y) hy1 k4 (mvT k5 w1) (mvT k5 w2) (mvT k5 w4) hy (backOf (W := wd) (Q := fun v h L => Q' v h ∧ Fr n0 L) (hM _ []) k5 w4 w3 hrm hlo) (g := mkF _ pc Ls st) rfl (by rw [k3]; exact hml) (Steps.refl _) (a := a) (argsL := argsL) (rest := rest) (lenOf hpd hlen) hst (by show 2 * 0 + _ ≤ _; omega) (hb k2 hd) (fun _ _ => ⟨rfl, e, hc', hs'⟩)
  dsimp only [Pt.U, Pt.locs, Pt.cells, Pt.slots] at X' l1 y1 z1 k hQ
  subst l1 y1 z1
  obtain ⟨s₂, v', L2, h1, h2⟩ := hr v _ hQ.1 k1 k2 k3 k4 k5 k6 k7 k8 T' _ X' rfl (Fr.app N hQ.2)
  exact ⟨s₂, v', L2, k.trans h1, h2⟩
theorem WP.callV {a : Addr} {z : MethodName} {K : String} {i : Nat} {y : MethodName} {code' : ByteArray} {ml' wd cl' sl' : Nat} {rt' : Option FieldType} {R' : Room} {Q' : Option Value → Heap → Prop} {argsL rest : List Value} {ps : List FieldType} {rr : Option FieldType} (hd : decode code pc = .ok (.invokevirtual i, 3)) (hp : pc + 3 = pc') (w1 : (Jvm.Cond.methodLink own i y).before a0 Z = true) (wd1 : (Jvm.Cond.declares y).before a0 Z = true) (hnf : ∀ s : State, Z.Warmed39 s.vm → NotFace s y) (ws : (Jvm.Cond.selects K y z).before a0 Z = true) (w2 : (Jvm.Cond.instanceMethod z).before a0 Z = true) (w3 : (Jvm.Cond.initialized z.cls).before a0 Z = true) (w4 : (Jvm.Cond.code z code' ml' rt').before a0 Z = true) (hy : y.cls ≠ "java/lang/invoke/MethodHandle" ∧ y.cls ≠ "java/lang/invoke/VarHandle") (E : Exa Z h a K) (hM : ∀ l, Does l Z z code' ml' rt' R' n0 (.ref a :: argsL).toArray h Q') (hpd : parseMethodDescriptor y.desc = some ⟨ps, rr⟩) (hlen : argsL.length = ps.length) (hst : st = argsL.reverse ++ .ref a :: rest) (hml : Ls.size = ml) (hw : (rest.map fun v => v.category).sum ≤ wd) (hrm : R'.frames + 1 ≤ R.frames) (hlo : wd + (ml' + 11) + R'.locals ≤ R.locals) (hc : cl + R'.cells = cl') (hs : sl + R'.slots = sl') (hc' : cl' ≤ R.cells) (hs' : sl' ≤ R.slots)
    (hr : ∀ v h', Q' v h' → WP C Z code ml own rt nm R n0 Q cl' sl' h' pc' Ls (v.toList ++ rest)) : WP C Z code ml own rt nm R n0 Q cl sl h pc Ls st := by
  subst hp hc hs
  intro k1 k2 k3 k4 k5 k6 k7 k8 T locs X e N
  obtain ⟨cq, kq, q1, q2, q3⟩ := isOf k5 e E
  obtain ⟨v, _, ⟨T', L', c', n'⟩, -, X', ⟨Lc, hQ, l1, y1, z1⟩, k⟩ := X.virtualBack k1 (y := y) (z := z) k4 (mvT k5 w1) (mvT k5 wd1) (hnf _ k5) (mvT k5 ws) (mvT k5 w2) hy (backOf (W := wd) (Q := fun v h L => Q' v h ∧ Fr n0 L) (hM _ []) k5 w4 w3 hrm hlo) q1 q3 (g := mkF _ pc Ls st) rfl (by rw [k3]; exact hml) (Steps.refl _) (argsL := argsL) (rest := rest) (lenOf hpd hlen) hst (by show 2 * 0 + _ ≤ _; omega) (hb k2 hd) (fun _ _ => ⟨rfl, e, hc', hs'⟩)
  dsimp only [Pt.U, Pt.locs, Pt.cells, Pt.slots] at X' l1 y1 z1 k hQ
  subst l1 y1 z1
  obtain ⟨s₂, v', L2, h1, h2⟩ := hr v _ hQ.1 k1 k2 k3 k4 k5 k6 k7 k8 T' _ X' rfl (Fr.app N hQ.2)
  exact ⟨s₂, v', L2, k.trans h1, h2⟩
theorem nfS {y z : MethodName} {K : String} (ws : (Jvm.Cond.selects K y z).before a0 Z = true) (e : y = z) : ∀ s : State, Z.Warmed39 s.vm → NotFace s y := by subst e; exact fun s k => notFace_of_selects (args := #[]) (mvT k ws)
theorem WP.callP {a : Addr} {K : String} {i : Nat} {y : MethodName} {code' : ByteArray} {ml' wd cl' sl' : Nat} {rt' : Option FieldType} {R' : Room} {Q' : Option Value → Heap → Prop} {argsL rest : List Value} {ps : List FieldType} {rr : Option FieldType} (hd : decode code pc = .ok (.invokevirtual i, 3)) (hp : pc + 3 = pc') (w1 : (Jvm.Cond.methodLink own i y).before a0 Z = true) (w2 : (Jvm.Cond.instanceMethod y).before a0 Z = true) (ws : (Jvm.Cond.selects y.cls y y).before a0 Z = true) (wp : (Jvm.Cond.privateMethod y).before a0 Z = true) (w3 : (Jvm.Cond.initialized y.cls).before a0 Z = true) (w4 : (Jvm.Cond.code y code' ml' rt').before a0 Z = true) (hy : y.cls ≠ "java/lang/invoke/MethodHandle" ∧ y.cls ≠ "java/lang/invoke/VarHandle") (E : Exa Z h a K) (hM : ∀ l, Does l Z y code' ml' rt' R' n0 (.ref a :: argsL).toArray h Q') (hpd : parseMethodDescriptor y.desc = some ⟨ps, rr⟩) (hlen : argsL.length = ps.length) (hst : st = argsL.reverse ++ .ref a :: rest) (hml : Ls.size = ml) (hw : (rest.map fun v => v.category).sum ≤ wd) (hrm : R'.frames + 1 ≤ R.frames) (hlo : wd + (ml' + 11) + R'.locals ≤ R.locals) (hc : cl + R'.cells = cl') (hs : sl + R'.slots = sl') (hc' : cl' ≤ R.cells) (hs' : sl' ≤ R.slots)
    (hr : ∀ v h', Q' v h' → WP C Z code ml own rt nm R n0 Q cl' sl' h' pc' Ls (v.toList ++ rest)) : WP C Z code ml own rt nm R n0 Q cl sl h pc Ls st := by
  subst hp hc hs
  intro k1 k2 k3 k4 k5 k6 k7 k8 T locs X e N
  obtain ⟨cq, q1, q2⟩ := E.cell
  obtain ⟨v, _, ⟨T', L', c', n'⟩, -, X', ⟨Lc, hQ, l1, y1, z1⟩, k⟩ := X.privateBack k1 (y := y) k4 (mvT k5 w1) (mvT k5 w2) (mvT k5 ws) (Cond.privateMethod_at (mvP k5 wp (args := #[]))) (mvT k5 w4) hy (backOf (W := wd) (Q := fun v h L => Q' v h ∧ Fr n0 L) (hM _ []) k5 w4 w3 hrm hlo) (g := mkF _ pc Ls st) rfl (by rw [k3]; exact hml) (Steps.refl _) (a := a) (by rw [e]; exact q1) q2 (argsL := argsL) (rest := rest) (lenOf hpd hlen) hst (by show 2 * 0 + _ ≤ _; omega) (hb k2 hd) (fun _ _ => ⟨rfl, e, hc', hs'⟩)
  dsimp only [Pt.U, Pt.locs, Pt.cells, Pt.slots] at X' l1 y1 z1 k hQ
  subst l1 y1 z1
  obtain ⟨s₂, v', L2, h1, h2⟩ := hr v _ hQ.1 k1 k2 k3 k4 k5 k6 k7 k8 T' _ X' rfl (Fr.app N hQ.2)
  exact ⟨s₂, v', L2, k.trans h1, h2⟩
theorem WP.iret {z : Int32} (hd : decode code pc = .ok (.ireturn, 1)) (hrt : rt = some .int) (hc : cl ≤ R.cells) (hs : sl ≤ R.slots) (hq : Q (some (.int z)) h) : WP C Z code ml own rt nm R n0 Q cl sl h pc Ls (.int z :: st) := by
  intro k1 k2 k3 k4 k5 k6 k7 k8 T locs X e N
  obtain ⟨fs, hr', hrun, hended, hW, hsame⟩ := X.leave (v := some (.int z)) (fun q => by rw [k6, hrt] at q; cases q) k7
  exact ⟨_, _, _, retOut X k1 (t := .int) (k6.trans hrt) rfl (Or.inl ⟨rfl, Or.inl rfl, _, rfl⟩) (hb k2 hd) hr', hrun, hended, by show Q _ T.heap; rw [e]; exact hq, N, ⟨_, rfl⟩, hW, hsame.mono hc hs⟩
theorem WP.lret {z : Int64} (hd : decode code pc = .ok (.lreturn, 1)) (hrt : rt = some .long) (hc : cl ≤ R.cells) (hs : sl ≤ R.slots) (hq : Q (some (.long z)) h) : WP C Z code ml own rt nm R n0 Q cl sl h pc Ls (.long z :: st) := by
  intro k1 k2 k3 k4 k5 k6 k7 k8 T locs X e N
  obtain ⟨fs, hr', hrun, hended, hW, hsame⟩ := X.leave (v := some (.long z)) (fun q => by rw [k6, hrt] at q; cases q) k7
  exact ⟨_, _, _, retOut X k1 (t := .long) (k6.trans hrt) rfl (Or.inr (Or.inl ⟨rfl, rfl, _, rfl⟩)) (hb k2 hd) hr', hrun, hended, by show Q _ T.heap; rw [e]; exact hq, N, ⟨_, rfl⟩, hW, hsame.mono hc hs⟩
theorem WP.dret {z : UInt64} (hd : decode code pc = .ok (.dreturn, 1)) (hrt : rt = some .double) (hc : cl ≤ R.cells) (hs : sl ≤ R.slots) (hq : Q (some (.double z)) h) : WP C Z code ml own rt nm R n0 Q cl sl h pc Ls (.double z :: st) := by
  intro k1 k2 k3 k4 k5 k6 k7 k8 T locs X e N
  obtain ⟨fs, hr', hrun, hended, hW, hsame⟩ := X.leave (v := some (.double z)) (fun q => by rw [k6, hrt] at q; cases q) k7
  exact ⟨_, _, _, retOut X k1 (t := .double) (k6.trans hrt) rfl (Or.inr (Or.inr (Or.inl ⟨rfl, rfl, _, rfl⟩))) (hb k2 hd) hr', hrun, hended, by show Q _ T.heap; rw [e]; exact hq, N, ⟨_, rfl⟩, hW, hsame.mono hc hs⟩
theorem WP.aret {z : Value} (hd : decode code pc = .ok (.areturn, 1)) {t : FieldType} (hrt : rt = some t) (ht : t.isReference = true) (hv : z.isRef = true) (hc : cl ≤ R.cells) (hs : sl ≤ R.slots) (hq : Q (some z) h) : WP C Z code ml own rt nm R n0 Q cl sl h pc Ls (z :: st) := by
  intro k1 k2 k3 k4 k5 k6 k7 k8 T locs X e N
  obtain ⟨fs, hr', hrun, hended, hW, hsame⟩ := X.leave (v := some z) (fun q => by rw [k6, hrt] at q; cases q) k7
  exact ⟨_, _, _, retOut X k1 (t := t) (k6.trans hrt) (by cases t <;> first | (cases ht; done) | rfl) (Or.inr (Or.inr (Or.inr (Or.inr ⟨rfl, ht, hv⟩)))) (hb k2 hd) hr', hrun, hended, by show Q _ T.heap; rw [e]; exact hq, N, ⟨_, rfl⟩, hW, hsame.mono hc hs⟩
theorem WP.nret {z : Int32} (hd : decode code pc = .ok (.ireturn, 1)) {t : FieldType} {z' : Int32} (hrt : rt = some t) (ht : t = .boolean ∨ t = .byte ∨ t = .char ∨ t = .short) (hz : nar t z = z') (hc : cl ≤ R.cells) (hs : sl ≤ R.slots) (hq : Q (some (.int z')) h) : WP C Z code ml own rt nm R n0 Q cl sl h pc Ls (.int z :: st) := by
  intro k1 k2 k3 k4 k5 k6 k7 k8 T locs X e N
  obtain ⟨fs, hr', hrun, hended, hW, hsame⟩ := X.leave (v := some (.int z')) (fun q => by rw [k6, hrt] at q; cases q) k7
  exact ⟨_, _, _, retN X k1 (t := t) (k6.trans hrt) ht (hb k2 hd) (by rw [hz]; exact hr'), hrun, hended, by show Q _ T.heap; rw [e]; exact hq, N, ⟨_, rfl⟩, hW, hsame.mono hc hs⟩
theorem WP.vret (hd : decode code pc = .ok (.return_, 1)) (hrt : rt = none) (hc : cl ≤ R.cells) (hs : sl ≤ R.slots) (hq : Q none h) : WP C Z code ml own rt nm R n0 Q cl sl h pc Ls [] := by
  intro k1 k2 k3 k4 k5 k6 k7 k8 T locs X e N
  obtain ⟨fs, hr', hrun, hended, hW, hsame⟩ := X.leave (v := none) (fun _ => rfl) k7
  exact ⟨_, _, _, X.returnOut k1 (k6.trans hrt) (hb k2 hd) hr', hrun, hended, by show Q _ T.heap; rw [e]; exact hq, N, ⟨_, rfl⟩, hW, hsame.mono hc hs⟩
end Rules
end Jvm.WK
namespace Jvm.WK
open Jvm Sem ClassFile Op Lib Jvm.Free Jvm.Stand Jvm.LawKit Jvm.RoadKit
def b2i (b : Bool) : Int32 := if b then 1 else 0
theorem b2i_t {P : Prop} [Decidable P] (h : P) : some (Value.int 1) = some (Value.int (b2i (decide P))) := by rw [decide_eq_true h]; rfl
theorem b2i_f {P : Prop} [Decidable P] (h : ¬ P) : some (Value.int 0) = some (Value.int (b2i (decide P))) := by rw [decide_eq_false h]; rfl
theorem b2i_congr {P P' : Prop} [Decidable P] [Decidable P'] (h : P ↔ P') : b2i (decide P) = b2i (decide P') := by rw [decide_eq_decide.mpr h]
theorem b2i_1 {b : Bool} : b2i b = 1 ↔ b = true := by cases b <;> simp [b2i]
theorem b2i_0 {b : Bool} : b2i b = 0 ↔ b = false := by cases b <;> simp [b2i]
theorem b2i_one (b : Bool) : b2i b &&& 1 = b2i b := by cases b <;> rfl
theorem eqInt_v {args : Array Value} {first s : State} {o : Option Outcome} {idx : List Nat} {t : Term} {k : Int32} (h : (Jvm.Cond.eq t (.int k)).value args first o s idx = some true) : t.eval args first o idx s = some (.int k) := by
  obtain ⟨x, y, e1, e2, k1, k2⟩ := cmp_v (Or.inl h)
  have e3 : y = .int k := by simpa [Term.eval] using e2.symm
  subst e3
  obtain ⟨z, rfl⟩ := k2
  simp [Cond.value, e1, Term.eval] at h
  rw [e1, h]
theorem Sta.of_exa {args : Array Value} {s : State} {C n d K : String} (h : (Jvm.Cond.exactly (.static C n d) K).value args s none s [] = some true) (hi : (Jvm.Cond.initializedFor C n d).before args s = true ∨ ((Jvm.Cond.initialized C).before args s = true ∧ (Jvm.Cond.laysStatic C n d).before args s = true)) :
    ∃ a, (Term.static C n d).eval args s none [] s = some (.ref a) ∧ Sta s s.heap C n d (.ref a) ∧ Exa s s.heap a K := by
  obtain ⟨a, e⟩ := exa_v h
  exact ⟨a, e, Sta.start e hi, Exa.start e h⟩
theorem Fld.of_eq {args : Array Value} {s : State} {t : Term} {a : Addr} {C n d : String} {k : Int32} (e : t.eval args s none [] s = some (.ref a)) (h : (Jvm.Cond.eq (.field t C n d) (.int k)).value args s none s [] = some true) : Fld s s.heap a C n d (.int k) := by
  have q := eqInt_v h
  rw [fld_at e] at q
  exact Fld.start q
theorem Ari.of_start {s : State} {a : Addr} {c : Cell} {ty : FieldType} (hf : Fit s) (A : Arr s s.heap a c ty) (ht : ty = .int ∨ ty = .boolean ∨ ty = .byte ∨ ty = .char ∨ ty = .short) (hsz : c.slots.size < 2147483648) :
    ∃ g : Nat → Int32, Ari s s.heap a ty c.slots.size g ∧ ∀ i x, c.slots[i]? = some (.int x) → g i = x := by
  have key : ∀ i, i < c.slots.size → ∃ x, c.slots[i]? = some (.int x) ∧ fits ty (.int x) = true := by
    intro i hi
    have e1 : i.toInt32.toInt = (i : Int) := len_toInt (show i < 2 ^ 31 by omega)
    have e : i.toInt32.toNatClampNeg = i := by simp only [Int32.toNatClampNeg, e1]; omega
    obtain ⟨v, h1, h2⟩ := elem_fit (j := i.toInt32) hf A (idx_in hi (show c.slots.size < 2 ^ 31 by omega))
    obtain ⟨x, rfl⟩ := fit_I h2 ht
    rw [e] at h1
    exact ⟨x, h1, h2⟩
  refine ⟨fun i => match c.slots[i]? with | some (.int x) => x | _ => 0, ⟨c, A, rfl, hsz, fun i hi => ?_, fun i hi => ?_⟩, fun i x h => by simp only [h]⟩
  · obtain ⟨x, h1, -⟩ := key i hi; simp only [h1]
  · obtain ⟨x, h1, h2⟩ := key i hi; simp only [h1]; exact h2
theorem len_small {args : Array Value} {first s : State} {o : Option Outcome} {idx : List Nat} {t : Term} {v : Value} {a : Addr} {c : Cell} (h : (Term.length t).eval args first o idx s = some v) (ht : t.eval args first o idx s = some (.ref a)) (ha : s.arrayAt? a = some c) : c.slots.size < 2 ^ 31 := by
  simp only [Term.eval, ht, ha, Option.bind_eq_bind, Option.bind_some] at h
  split at h
  · assumption
  · cases h
/-- an array that a static holds, pinned by a case's words -/
theorem Ari.of_static {s : State} {args : Array Value} {C n d : String} {ty : FieldType} {N : Int32} {k : Nat} (hf : Fit s) (hA : (Jvm.Cond.arrayOf (.static C n d) ty).value args s none s [] = some true) (hL : (Jvm.Cond.eq (.length (.static C n d)) (.int N)).value args s none s [] = some true)
    (ht : ty = .int ∨ ty = .boolean ∨ ty = .byte ∨ ty = .char ∨ ty = .short) (hi : (Jvm.Cond.initializedFor C n d).before args s = true ∨ ((Jvm.Cond.initialized C).before args s = true ∧ (Jvm.Cond.laysStatic C n d).before args s = true)) (hN : N.toInt = (k : Int)) :
    ∃ (a : Addr) (g : Nat → Int32), Sta s s.heap C n d (.ref a) ∧ Ari s s.heap a ty k g ∧
      (∀ (j x : Int32) (i : Nat), (Jvm.Cond.eq (.elem (.static C n d) (.int j)) (.int x)).value args s none s [] = some true → j.toInt = (i : Int) → g i = x) ∧
      (∀ c : Jvm.Cond, (Jvm.Cond.all (.static C n d) c).value args s none s [] = some true → ∀ i, i < k → c.value args s none s [i] = some true) ∧
      (∀ (i : Nat) (x : Int32), i < k → (Jvm.Cond.eq (.elem (.static C n d) (.index 0)) (.int x)).value args s none s [i] = some true → g i = x) := by
  obtain ⟨a, e⟩ := arr_v hA
  obtain ⟨c, A⟩ := Arr.start e hA
  have eL := eqInt_v hL
  have hat : s.arrayAt? a = some c := A.fin (Vm.Alike.refl _)
  have hsz : c.slots.size < 2 ^ 31 := len_small eL e hat
  obtain ⟨a', c', q1, q2, q3⟩ := Term.length_spec eL
  cases e.symm.trans q1
  cases hat.symm.trans q2
  have hk : c.slots.size = k := by
    have z := congrArg Int32.toInt (Value.int.inj q3)
    rw [len_toInt hsz] at z
    omega
  obtain ⟨g, G, hg⟩ := Ari.of_start hf A ht hsz
  rw [hk] at G
  refine ⟨a, g, Sta.start e hi, G, fun j x i h hj => ?_, fun c0 h i hi => Cond.all_elim e hat h i (by omega), fun i x hi h => ?_⟩
  · obtain ⟨h1, h2⟩ := elem_in (eqInt_v h) e (show (Term.int j).eval args s none [] s = some (.int j) from rfl) A.1
    have ej : j.toNatClampNeg = i := by simp only [Int32.toNatClampNeg, hj]; omega
    rw [ej] at h2
    exact hg i x h2
  · have e2 : (Term.static C n d).eval args s none [i] s = some (.ref a) := e
    obtain ⟨h1, h2⟩ := elem_in (eqInt_v h) e2 (show (Term.index 0).eval args s none [i] s = some (.int i.toInt32) from rfl) A.1
    have e1 : i.toInt32.toInt = (i : Int) := len_toInt (show i < 2 ^ 31 by omega)
    have ej : i.toInt32.toNatClampNeg = i := by simp only [Int32.toNatClampNeg, e1]; omega
    rw [ej] at h2
    exact hg i x h2
theorem Arf.of_static {s : State} {args : Array Value} {C n d K K' : String} {N : Int32} {k : Nat} {X : Jvm.Cond} (hA : (Jvm.Cond.arrayOf (.static C n d) (.object K)).value args s none s [] = some true) (hL : (Jvm.Cond.eq (.length (.static C n d)) (.int N)).value args s none s [] = some true)
    (hi : (Jvm.Cond.initializedFor C n d).before args s = true ∨ ((Jvm.Cond.initialized C).before args s = true ∧ (Jvm.Cond.laysStatic C n d).before args s = true)) (hN : N.toInt = (k : Int)) (hall : (Jvm.Cond.all (.static C n d) (.and (.exactly (.elem (.static C n d) (.index 0)) K') X)).value args s none s [] = some true) :
    ∃ (a : Addr) (f : Nat → Value), Sta s s.heap C n d (.ref a) ∧ Arf s s.heap a (.object K) k f ∧ ∀ i, i < k → ∃ y, f i = .ref y := by
  obtain ⟨a, e⟩ := arr_v hA
  obtain ⟨c, A⟩ := Arr.start e hA
  have eL := eqInt_v hL
  have hat : s.arrayAt? a = some c := A.fin (Vm.Alike.refl _)
  have hsz : c.slots.size < 2 ^ 31 := len_small eL e hat
  obtain ⟨a', c', q1, q2, q3⟩ := Term.length_spec eL
  cases e.symm.trans q1
  cases hat.symm.trans q2
  have hk : c.slots.size = k := by
    have z := congrArg Int32.toInt (Value.int.inj q3)
    rw [len_toInt hsz] at z
    omega
  have key : ∀ i, i < k → ∃ y, c.slots[i]? = some (.ref y) := fun i hi => by
    have h1 := (and_e (Cond.all_elim e hat hall i (by omega))).1
    obtain ⟨y, hy⟩ := exa_v h1
    have e2 : (Term.static C n d).eval args s none [i] s = some (.ref a) := e
    obtain ⟨-, h2⟩ := elem_in hy e2 (show (Term.index 0).eval args s none [i] s = some (.int i.toInt32) from rfl) A.1
    have e1 : i.toInt32.toInt = (i : Int) := len_toInt (show i < 2 ^ 31 by omega)
    have ej : i.toInt32.toNatClampNeg = i := by simp only [Int32.toNatClampNeg, e1]; omega
    rw [ej] at h2
    exact ⟨y, h2⟩
  refine ⟨a, fun i => (c.slots[i]?).getD .null, Sta.start e hi, ⟨c, A, hk, by omega, fun i hi => ?_, fun i hi => ?_⟩, fun i hi => ?_⟩
  · obtain ⟨y, hy⟩ := key i hi; simp [hy]
  · obtain ⟨y, hy⟩ := key i hi; simp [hy, fits]
  · obtain ⟨y, hy⟩ := key i hi; exact ⟨y, by simp [hy]⟩
theorem nar_char (x : Int32) : nar .char (nar .char x) = nar .char x := by
  have h1 := c_i2c x
  have h2 := c_i2c (nar .char x)
  apply Int32.toInt_inj.mp
  show (nar .char x).toUInt32.toUInt16.toUInt32.toInt32.toInt = x.toUInt32.toUInt16.toUInt32.toInt32.toInt
  have e : (nar .char x).toInt = x.toUInt32.toUInt16.toUInt32.toInt32.toInt := rfl
  omega
theorem idx_lt {args : Array Value} {s : State} {i : Nat} {lo : Int32} (hi : i < 2147483648) : (Jvm.Cond.lt (.index 0) (.int lo)).value args s none s [i] = some (decide ((i : Int) < lo.toInt)) := by
  have e1 : i.toInt32.toInt = (i : Int) := len_toInt (show i < 2 ^ 31 by omega)
  rw [Cond.lt_ints (x := i.toInt32) (y := lo) rfl rfl, Option.some.injEq, decide_eq_decide, Int32.lt_iff_toInt_lt, e1]
theorem idx_le {args : Array Value} {s : State} {i : Nat} {hi : Int32} (h : i < 2147483648) : (Jvm.Cond.le (.int hi) (.index 0)).value args s none s [i] = some (decide (hi.toInt ≤ (i : Int))) := by
  have e1 : i.toInt32.toInt = (i : Int) := len_toInt (show i < 2 ^ 31 by omega)
  rw [Cond.le_ints (x := hi) (y := i.toInt32) rfl rfl, Option.some.injEq, decide_eq_decide, Int32.le_iff_toInt_le, e1]
theorem or_v {args : Array Value} {first s : State} {o : Option Outcome} {idx : List Nat} {G X : Jvm.Cond} {P : Prop} [Decidable P] (h : (Jvm.Cond.or G X).value args first o s idx = some true) (h1 : G.value args first o s idx = some (decide P)) : P ∨ X.value args first o s idx = some true := by
  by_cases p : P
  · exact Or.inl p
  · rw [Cond.or_of_right (nay h1 p)] at h; exact Or.inr h
end Jvm.WK
namespace Jvm.Pilot.@@N@@
open Jvm Jvm.ClassFile Sem Op Lib Jvm.Free Jvm.Stand Jvm.LawKit Jvm.RoadKit Bundle Jvm.WK Jvm.Pilot.@@N@@.Jvm.D
theorem d_method_2_0 : decode method_2_code 0 = .ok (.iload_n 0, 1) := by decide +kernel
theorem d_method_2_1 : decode method_2_code 1 = .ok (.iconst 1, 1) := by decide +kernel
theorem d_method_2_2 : decode method_2_code 2 = .ok (.iand, 1) := by decide +kernel
theorem d_method_2_3 : decode method_2_code 3 = .ok (.ifCond .ne 7, 3) := by decide +kernel
theorem d_method_2_10 : decode method_2_code 10 = .ok (.iload_n 0, 1) := by decide +kernel
theorem d_method_2_11 : decode method_2_code 11 = .ok (.iconst 1, 1) := by decide +kernel
theorem d_method_2_12 : decode method_2_code 12 = .ok (.iushr, 1) := by decide +kernel
theorem d_method_2_13 : decode method_2_code 13 = .ok (.i2c, 1) := by decide +kernel
theorem d_method_2_14 : decode method_2_code 14 = .ok (.ireturn, 1) := by decide +kernel
theorem d_method_2_6 : decode method_2_code 6 = .ok (.iload_n 1, 1) := by decide +kernel
theorem d_method_2_7 : decode method_2_code 7 = .ok (.goto 7, 3) := by decide +kernel
theorem pn_0 : plainName "com/example/labwire/labwire/hl7/DelimitersIsStandardPinLaw" = true := by first | (simp [plainName, overriddenIn]; done) | decide +kernel
set_option maxRecDepth 65536 in
set_option maxHeartbeats 40000000 in
theorem m_pick {Z : State} {a0 : Array Value} (hw : ∀ d ∈ tables_1, d.before a0 Z = true) (p : Int32) (c : Int32) (h0 : Heap) (n0 : Nat)  : ∀ l, Does l Z (⟨"com/example/labwire/labwire/hl7/DelimitersIsStandardPinLaw", "pick", "(IC)C"⟩ : MethodName) method_2_code 2 (some .char) ({ frames := 0, cells := 0, slots := 0, locals := 0 } : Room) n0 #[(.int p), (.int c)] h0 (fun v h => (∃ z : Int32, v = some (.int z) ∧ nar .char z = z) ∧ h = h0) := by
  intro l
  refine Does.of_wp (plainFor_of_name pn_0) (Ls := #[.val (.int p), .val (.int c)]) (fun m => by first | (simp [entryFrame, mkF, argsToLocals, Value.category]; done) | rfl) ?_
  intro C
  refine WP.iloadN (pc' := 1) d_method_2_0 rfl rfl ?_
  refine WP.iconst (pc' := 2) d_method_2_1 rfl (z := 1) rfl ?_
  refine WP.iand (pc' := 3) d_method_2_2 rfl ?_
  refine WP.ifc_ne (pc1 := 10) (pc2 := 6) d_method_2_3 (by decide) (by decide) rfl ?_ ?_
  · intro hc3
    refine WP.iloadN (pc' := 11) d_method_2_10 rfl rfl ?_
    refine WP.iconst (pc' := 12) d_method_2_11 rfl (z := 1) rfl ?_
    refine WP.iushr (pc' := 13) d_method_2_12 rfl ?_
    refine WP.i2c (pc' := 14) d_method_2_13 rfl ?_
    refine WP.nret (t := .char) d_method_2_14 rfl (by simp) rfl (by decide) (by decide) ⟨⟨_, rfl, nar_char _⟩, rfl⟩
  · intro hc3
    refine WP.iloadN (pc' := 7) d_method_2_6 rfl rfl ?_
    refine WP.goto (pc' := 14) d_method_2_7 (by decide) (by decide) ?_
    refine WP.nret (t := .char) d_method_2_14 rfl (by simp) rfl (by decide) (by decide) ⟨⟨_, rfl, nar_char _⟩, rfl⟩
theorem d_jdk_30_method_1_0 : decode jdk_30_method_1_code 0 = .ok (.aload_n 0, 1) := by decide +kernel
theorem d_jdk_30_method_1_1 : decode jdk_30_method_1_code 1 = .ok (.invokespecial 1, 3) := by decide +kernel
theorem wd40 {Z : State} {a0 : Array Value} (hw : ∀ d ∈ tables_1, d.before a0 Z = true) : (Jvm.Cond.methodLink "java/lang/Record" (1 : Nat) ({ cls := "java/lang/Object", name := "<init>", desc := "()V" } : Jvm.MethodName)).before a0 Z = true := hw _ (List.mem_of_getElem? (i := 40) rfl)
theorem wd25 {Z : State} {a0 : Array Value} (hw : ∀ d ∈ tables_1, d.before a0 Z = true) : (Jvm.Cond.instanceMethod ({ cls := "java/lang/Object", name := "<init>", desc := "()V" } : Jvm.MethodName)).before a0 Z = true := hw _ (List.mem_of_getElem? (i := 25) rfl)
theorem wd26 {Z : State} {a0 : Array Value} (hw : ∀ d ∈ tables_1, d.before a0 Z = true) : (Jvm.Cond.code ({ cls := "java/lang/Object", name := "<init>", desc := "()V" } : Jvm.MethodName) object_method_1_code (1 : Nat) (Option.none : Option Jvm.ClassFile.FieldType)).before a0 Z = true := hw _ (List.mem_of_getElem? (i := 26) rfl)
theorem d_jdk_30_method_1_4 : decode jdk_30_method_1_code 4 = .ok (.return_, 1) := by decide +kernel
theorem pn_1 : plainName "java/lang/Record" = true := by first | (simp [plainName, overriddenIn]; done) | decide +kernel
set_option maxRecDepth 65536 in
set_option maxHeartbeats 40000000 in
theorem m_rec {Z : State} {a0 : Array Value} (hw : ∀ d ∈ tables_1, d.before a0 Z = true) (a : Addr) (h0 : Heap) (n0 : Nat)  : ∀ l, Does l Z (⟨"java/lang/Record", "<init>", "()V"⟩ : MethodName) jdk_30_method_1_code 1 none ({ frames := 1, cells := 0, slots := 0, locals := 12 } : Room) n0 #[(.ref a)] h0 (fun v h => v = none ∧ h = h0) := by
  intro l
  refine Does.of_wp (plainFor_of_name pn_1) (Ls := #[.val (.ref a)]) (fun m => by first | (simp [entryFrame, mkF, argsToLocals, Value.category]; done) | rfl) ?_
  intro C
  refine WP.aloadN (pc' := 1) d_jdk_30_method_1_0 rfl rfl rfl ?_
  refine WP.initO (wd := 0) (pc' := 4) d_jdk_30_method_1_1 rfl (wd40 hw) (wd25 hw) (wd26 hw) rfl (by decide) (Nat.le_of_eq rfl) (by decide) ?_
  exact WP.vret d_jdk_30_method_1_4 rfl (by decide) (by decide) ⟨rfl, rfl⟩
theorem d_jdk_31_method_10_0 : decode jdk_31_method_10_code 0 = .ok (.aload_n 0, 1) := by decide +kernel
theorem d_jdk_31_method_10_1 : decode jdk_31_method_10_code 1 = .ok (.ifnonnull 11, 3) := by decide +kernel
theorem d_jdk_31_method_10_12 : decode jdk_31_method_10_code 12 = .ok (.aload_n 0, 1) := by decide +kernel
theorem d_jdk_31_method_10_13 : decode jdk_31_method_10_code 13 = .ok (.areturn, 1) := by decide +kernel
theorem pn_2 : plainName "java/util/Objects" = true := by first | (simp [plainName, overriddenIn]; done) | decide +kernel
set_option maxRecDepth 65536 in
set_option maxHeartbeats 40000000 in
theorem m_req {Z : State} {a0 : Array Value} (hw : ∀ d ∈ tables_1, d.before a0 Z = true) (a : Addr) (h0 : Heap) (n0 : Nat)  : ∀ l, Does l Z (⟨"java/util/Objects", "requireNonNull", "(Ljava/lang/Object;)Ljava/lang/Object;"⟩ : MethodName) jdk_31_method_10_code 1 (some (.object "java/lang/Object")) ({ frames := 0, cells := 0, slots := 0, locals := 0 } : Room) n0 #[(.ref a)] h0 (fun v h => v = some (.ref a) ∧ h = h0) := by
  intro l
  refine Does.of_wp (plainFor_of_name pn_2) (Ls := #[.val (.ref a)]) (fun m => by first | (simp [entryFrame, mkF, argsToLocals, Value.category]; done) | rfl) ?_
  intro C
  refine WP.aloadN (pc' := 1) d_jdk_31_method_10_0 rfl rfl rfl ?_
  refine WP.ifnonnullY (pc' := 12) d_jdk_31_method_10_1 (by decide) (by decide) ?_
  refine WP.aloadN (pc' := 13) d_jdk_31_method_10_12 rfl rfl rfl ?_
  refine WP.aret d_jdk_31_method_10_13 rfl rfl rfl (by decide) (by decide) ⟨rfl, rfl⟩
theorem d_jdk_32_method_1_0 : decode jdk_32_method_1_code 0 = .ok (.getstatic 1, 3) := by decide +kernel
theorem wd63 {Z : State} {a0 : Array Value} (hw : ∀ d ∈ tables_1, d.before a0 Z = true) : (Jvm.Cond.fieldLink "java/util/Optional" (1 : Nat) "java/util/Optional" "EMPTY" "Ljava/util/Optional;").before a0 Z = true := hw _ (List.mem_of_getElem? (i := 63) rfl)
theorem d_jdk_32_method_1_3 : decode jdk_32_method_1_code 3 = .ok (.astore_n 0, 1) := by decide +kernel
theorem d_jdk_32_method_1_4 : decode jdk_32_method_1_code 4 = .ok (.aload_n 0, 1) := by decide +kernel
theorem d_jdk_32_method_1_5 : decode jdk_32_method_1_code 5 = .ok (.areturn, 1) := by decide +kernel
theorem pn_3 : plainName "java/util/Optional" = true := by first | (simp [plainName, overriddenIn]; done) | decide +kernel
set_option maxRecDepth 65536 in
set_option maxHeartbeats 40000000 in
theorem m_emp {Z : State} {a0 : Array Value} (hw : ∀ d ∈ tables_1, d.before a0 Z = true)  (h0 : Heap) (n0 : Nat) (aE : Addr) (S_E : Sta Z h0 "java/util/Optional" "EMPTY" "Ljava/util/Optional;" (.ref aE)) : ∀ l, Does l Z (⟨"java/util/Optional", "empty", "()Ljava/util/Optional;"⟩ : MethodName) jdk_32_method_1_code 1 (some (.object "java/util/Optional")) ({ frames := 0, cells := 0, slots := 0, locals := 0 } : Room) n0 #[] h0 (fun v h => v = some (.ref aE) ∧ h = h0) := by
  intro l
  refine Does.of_wp (plainFor_of_name pn_3) (Ls := #[.unset]) (fun m => by first | (simp [entryFrame, mkF, argsToLocals, Value.category]; done) | rfl) ?_
  intro C
  refine WP.getS (pc' := 3) d_jdk_32_method_1_0 rfl (host := "") (Or.inl (wd63 hw)) Via.refl (S_E) ?_
  refine WP.astoreN (pc' := 4) d_jdk_32_method_1_3 rfl rfl (Ls' := #[.val (.ref aE)]) rfl ?_
  refine WP.aloadN (pc' := 5) d_jdk_32_method_1_4 rfl rfl rfl ?_
  refine WP.aret d_jdk_32_method_1_5 rfl rfl rfl (by decide) (by decide) ⟨rfl, rfl⟩
theorem d_jdk_89_method_2_0 : decode jdk_89_method_2_code 0 = .ok (.aload_n 0, 1) := by decide +kernel
theorem d_jdk_89_method_2_1 : decode jdk_89_method_2_code 1 = .ok (.invokespecial 41, 3) := by decide +kernel
theorem wd70 {Z : State} {a0 : Array Value} (hw : ∀ d ∈ tables_1, d.before a0 Z = true) : (Jvm.Cond.methodLink "java/lang/Character" (41 : Nat) ({ cls := "java/lang/Object", name := "<init>", desc := "()V" } : Jvm.MethodName)).before a0 Z = true := hw _ (List.mem_of_getElem? (i := 70) rfl)
theorem d_jdk_89_method_2_4 : decode jdk_89_method_2_code 4 = .ok (.aload_n 0, 1) := by decide +kernel
theorem d_jdk_89_method_2_5 : decode jdk_89_method_2_code 5 = .ok (.iload_n 1, 1) := by decide +kernel
theorem d_jdk_89_method_2_6 : decode jdk_89_method_2_code 6 = .ok (.putfield 19, 3) := by decide +kernel
theorem wd71 {Z : State} {a0 : Array Value} (hw : ∀ d ∈ tables_1, d.before a0 Z = true) : (Jvm.Cond.fieldLink "java/lang/Character" (19 : Nat) "java/lang/Character" "value" "C").before a0 Z = true := hw _ (List.mem_of_getElem? (i := 71) rfl)
theorem wd72 {Z : State} {a0 : Array Value} (hw : ∀ d ∈ tables_1, d.before a0 Z = true) : (Jvm.Cond.laysFinal "java/lang/Character" "java/lang/Character" "value" "C").before a0 Z = true := hw _ (List.mem_of_getElem? (i := 72) rfl)
theorem wd65 {Z : State} {a0 : Array Value} (hw : ∀ d ∈ tables_1, d.before a0 Z = true) : (Jvm.Cond.instantiable "java/lang/Character" (1 : Nat)).before a0 Z = true := hw _ (List.mem_of_getElem? (i := 65) rfl)
theorem d_jdk_89_method_2_9 : decode jdk_89_method_2_code 9 = .ok (.return_, 1) := by decide +kernel
theorem pn_4 : plainName "java/lang/Character" = true := by first | (simp [plainName, overriddenIn]; done) | decide +kernel
set_option maxRecDepth 65536 in
set_option maxHeartbeats 40000000 in
theorem m_ci {Z : State} {a0 : Array Value} (hw : ∀ d ∈ tables_1, d.before a0 Z = true) (a : Addr) (p : Int32) (h0 : Heap) (n0 : Nat) (E0 : Exa Z h0 a "java/lang/Character") (g0 : n0 ≤ a) (F0 : Fld Z h0 a "java/lang/Character" "value" "C" (.int 0)) : ∀ l, Does l Z (⟨"java/lang/Character", "<init>", "(C)V"⟩ : MethodName) jdk_89_method_2_code 2 none ({ frames := 1, cells := 0, slots := 0, locals := 12 } : Room) n0 #[(.ref a), (.int p)] h0 (fun v h => v = none ∧ Keep h0 h [a] ∧ Exa Z h a "java/lang/Character") := by
  intro l
  refine Does.of_wp (plainFor_of_name pn_4) (Ls := #[.val (.ref a), .val (.int p)]) (fun m => by first | (simp [entryFrame, mkF, argsToLocals, Value.category]; done) | rfl) ?_
  intro C
  have K0 := Keep.refl h0 [a]
  refine WP.aloadN (pc' := 1) d_jdk_89_method_2_0 rfl rfl rfl ?_
  refine WP.initO (wd := 0) (pc' := 4) d_jdk_89_method_2_1 rfl (wd70 hw) (wd25 hw) (wd26 hw) rfl (by decide) (Nat.le_of_eq rfl) (by decide) ?_
  refine WP.aloadN (pc' := 5) d_jdk_89_method_2_4 rfl rfl rfl ?_
  refine WP.iloadN (pc' := 6) d_jdk_89_method_2_5 rfl rfl ?_
  refine WP.putFN (pc' := 9) d_jdk_89_method_2_6 rfl (wd71 hw) Via.refl F0 E0 (Or.inr ⟨(wd72 hw), rfl, rfl⟩) (wd65 hw) (ty := .char) (v' := (.int (nar .char p))) (by decide) rfl (fits_nar_char _) g0 ?_
  intro h1 W2
  have Kw3 := Keep.of_wr W2
  have E4 := E0.keep Kw3
  have K5 := K0.trans Kw3 (allS (Or.inl (by simp)) all0)
  have F7 := F0.same W2
  exact WP.vret d_jdk_89_method_2_9 rfl (by decide) (by decide) ⟨rfl, K5, E4⟩
theorem d_jdk_32_method_2_0 : decode jdk_32_method_2_code 0 = .ok (.aload_n 0, 1) := by decide +kernel
theorem d_jdk_32_method_2_1 : decode jdk_32_method_2_code 1 = .ok (.invokespecial 7, 3) := by decide +kernel
theorem wd24 {Z : State} {a0 : Array Value} (hw : ∀ d ∈ tables_1, d.before a0 Z = true) : (Jvm.Cond.methodLink "java/util/Optional" (7 : Nat) ({ cls := "java/lang/Object", name := "<init>", desc := "()V" } : Jvm.MethodName)).before a0 Z = true := hw _ (List.mem_of_getElem? (i := 24) rfl)
theorem d_jdk_32_method_2_4 : decode jdk_32_method_2_code 4 = .ok (.aload_n 0, 1) := by decide +kernel
theorem d_jdk_32_method_2_5 : decode jdk_32_method_2_code 5 = .ok (.aload_n 1, 1) := by decide +kernel
theorem d_jdk_32_method_2_6 : decode jdk_32_method_2_code 6 = .ok (.putfield 13, 3) := by decide +kernel
theorem wd27 {Z : State} {a0 : Array Value} (hw : ∀ d ∈ tables_1, d.before a0 Z = true) : (Jvm.Cond.fieldLink "java/util/Optional" (13 : Nat) "java/util/Optional" "value" "Ljava/lang/Object;").before a0 Z = true := hw _ (List.mem_of_getElem? (i := 27) rfl)
theorem wd28 {Z : State} {a0 : Array Value} (hw : ∀ d ∈ tables_1, d.before a0 Z = true) : (Jvm.Cond.laysFinal "java/util/Optional" "java/util/Optional" "value" "Ljava/lang/Object;").before a0 Z = true := hw _ (List.mem_of_getElem? (i := 28) rfl)
theorem wd15 {Z : State} {a0 : Array Value} (hw : ∀ d ∈ tables_1, d.before a0 Z = true) : (Jvm.Cond.instantiable "java/util/Optional" (1 : Nat)).before a0 Z = true := hw _ (List.mem_of_getElem? (i := 15) rfl)
theorem d_jdk_32_method_2_9 : decode jdk_32_method_2_code 9 = .ok (.return_, 1) := by decide +kernel
set_option maxRecDepth 65536 in
set_option maxHeartbeats 40000000 in
theorem m_oi {Z : State} {a0 : Array Value} (hw : ∀ d ∈ tables_1, d.before a0 Z = true) (a : Addr) (x : Addr) (h0 : Heap) (n0 : Nat) (E0 : Exa Z h0 a "java/util/Optional") (g0 : n0 ≤ a) (F0 : Fld Z h0 a "java/util/Optional" "value" "Ljava/lang/Object;" .null) : ∀ l, Does l Z (⟨"java/util/Optional", "<init>", "(Ljava/lang/Object;)V"⟩ : MethodName) jdk_32_method_2_code 2 none ({ frames := 1, cells := 0, slots := 0, locals := 12 } : Room) n0 #[(.ref a), (.ref x)] h0 (fun v h => v = none ∧ Keep h0 h [a] ∧ Exa Z h a "java/util/Optional") := by
  intro l
  refine Does.of_wp (plainFor_of_name pn_3) (Ls := #[.val (.ref a), .val (.ref x)]) (fun m => by first | (simp [entryFrame, mkF, argsToLocals, Value.category]; done) | rfl) ?_
  intro C
  have K0 := Keep.refl h0 [a]
  refine WP.aloadN (pc' := 1) d_jdk_32_method_2_0 rfl rfl rfl ?_
  refine WP.initO (wd := 0) (pc' := 4) d_jdk_32_method_2_1 rfl (wd24 hw) (wd25 hw) (wd26 hw) rfl (by decide) (Nat.le_of_eq rfl) (by decide) ?_
  refine WP.aloadN (pc' := 5) d_jdk_32_method_2_4 rfl rfl rfl ?_
  refine WP.aloadN (pc' := 6) d_jdk_32_method_2_5 rfl rfl rfl ?_
  refine WP.putF (pc' := 9) d_jdk_32_method_2_6 rfl (host := "") (Or.inl (wd27 hw)) Via.refl F0 E0 (Or.inr ⟨(wd28 hw), rfl, rfl⟩) (wd15 hw) (ty := (.object "java/lang/Object")) (by decide) rfl rfl g0 ?_
  intro h1 W2
  have Kw3 := Keep.of_wr W2
  have E4 := E0.keep Kw3
  have K5 := K0.trans Kw3 (allS (Or.inl (by simp)) all0)
  have F7 := F0.same W2
  exact WP.vret d_jdk_32_method_2_9 rfl (by decide) (by decide) ⟨rfl, K5, E4⟩
theorem d_jdk_89_method_3_0 : decode jdk_89_method_3_code 0 = .ok (.iload_n 0, 1) := by decide +kernel
theorem d_jdk_89_method_3_1 : decode jdk_89_method_3_code 1 = .ok (.bipush 127, 2) := by decide +kernel
theorem d_jdk_89_method_3_3 : decode jdk_89_method_3_code 3 = .ok (.if_icmp .gt 9, 3) := by decide +kernel
theorem d_jdk_89_method_3_12 : decode jdk_89_method_3_code 12 = .ok (.new 1, 3) := by decide +kernel
theorem wd64 {Z : State} {a0 : Array Value} (hw : ∀ d ∈ tables_1, d.before a0 Z = true) : (Jvm.Cond.classLink "java/lang/Character" (1 : Nat) "java/lang/Character").before a0 Z = true := hw _ (List.mem_of_getElem? (i := 64) rfl)
theorem wd6 {Z : State} {a0 : Array Value} (hw : ∀ d ∈ tables_1, d.before a0 Z = true) : (Jvm.Cond.initialized "java/lang/Character").before a0 Z = true := hw _ (List.mem_of_getElem? (i := 6) rfl)
theorem d_jdk_89_method_3_15 : decode jdk_89_method_3_code 15 = .ok (.dup, 1) := by decide +kernel
theorem d_jdk_89_method_3_16 : decode jdk_89_method_3_code 16 = .ok (.iload_n 0, 1) := by decide +kernel
theorem d_jdk_89_method_3_17 : decode jdk_89_method_3_code 17 = .ok (.invokespecial 53, 3) := by decide +kernel
theorem wd66 {Z : State} {a0 : Array Value} (hw : ∀ d ∈ tables_1, d.before a0 Z = true) : (Jvm.Cond.methodLink "java/lang/Character" (53 : Nat) ({ cls := "java/lang/Character", name := "<init>", desc := "(C)V" } : Jvm.MethodName)).before a0 Z = true := hw _ (List.mem_of_getElem? (i := 66) rfl)
theorem wd69 {Z : State} {a0 : Array Value} (hw : ∀ d ∈ tables_1, d.before a0 Z = true) : (Jvm.Cond.code ({ cls := "java/lang/Character", name := "<init>", desc := "(C)V" } : Jvm.MethodName) jdk_89_method_2_code (2 : Nat) (Option.none : Option Jvm.ClassFile.FieldType)).before a0 Z = true := hw _ (List.mem_of_getElem? (i := 69) rfl)
theorem pd_0 : parseMethodDescriptor "(C)V" = some ⟨[.char], none⟩ := by decide +kernel
theorem wd67 {Z : State} {a0 : Array Value} (hw : ∀ d ∈ tables_1, d.before a0 Z = true) : (Jvm.Cond.instanceMethod ({ cls := "java/lang/Character", name := "<init>", desc := "(C)V" } : Jvm.MethodName)).before a0 Z = true := hw _ (List.mem_of_getElem? (i := 67) rfl)
theorem d_jdk_89_method_3_20 : decode jdk_89_method_3_code 20 = .ok (.areturn, 1) := by decide +kernel
theorem d_jdk_89_method_3_6 : decode jdk_89_method_3_code 6 = .ok (.getstatic 47, 3) := by decide +kernel
theorem wd8 {Z : State} {a0 : Array Value} (hw : ∀ d ∈ tables_1, d.before a0 Z = true) : (Jvm.Cond.fieldLink "java/lang/Character" (47 : Nat) "java/lang/Character$CharacterCache" "cache" "[Ljava/lang/Character;").before a0 Z = true := hw _ (List.mem_of_getElem? (i := 8) rfl)
theorem d_jdk_89_method_3_9 : decode jdk_89_method_3_code 9 = .ok (.iload_n 0, 1) := by decide +kernel
theorem d_jdk_89_method_3_10 : decode jdk_89_method_3_code 10 = .ok (.aaload, 1) := by decide +kernel
theorem d_jdk_89_method_3_11 : decode jdk_89_method_3_code 11 = .ok (.areturn, 1) := by decide +kernel
set_option maxRecDepth 65536 in
set_option maxHeartbeats 40000000 in
theorem m_val {Z : State} {a0 : Array Value} (hw : ∀ d ∈ tables_1, d.before a0 Z = true) (p : Int32) (h0 : Heap) (n0 : Nat) (Z0 : n0 ≤ h0.size) (hp : 0 ≤ p.toInt) (aC : Addr) (f : Nat → Value) (S_C : Sta Z h0 "java/lang/Character$CharacterCache" "cache" "[Ljava/lang/Character;" (.ref aC)) (A0 : Arf Z h0 aC (.object "java/lang/Character") 128 f) (hf : ∀ i, i < 128 → ∃ y, f i = .ref y) : ∀ l, Does l Z (⟨"java/lang/Character", "valueOf", "(C)Ljava/lang/Character;"⟩ : MethodName) jdk_89_method_3_code 1 (some (.object "java/lang/Character")) ({ frames := 2, cells := 1, slots := 1, locals := 26 } : Room) n0 #[(.int p)] h0 (fun v h => ∃ y : Addr, v = some (.ref y) ∧ Keep h0 h []) := by
  intro l
  refine Does.of_wp (plainFor_of_name pn_4) (Ls := #[.val (.int p)]) (fun m => by first | (simp [entryFrame, mkF, argsToLocals, Value.category]; done) | rfl) ?_
  intro C
  have K0 := Keep.refl h0 []
  refine WP.iloadN (pc' := 1) d_jdk_89_method_3_0 rfl rfl ?_
  refine WP.bipush (pc' := 3) d_jdk_89_method_3_1 rfl (z := 127) rfl ?_
  refine WP.icmp_gt (pc1 := 12) (pc2 := 6) d_jdk_89_method_3_3 (by decide) (by decide) rfl ?_ ?_
  · intro hc3
    refine WP.newO (cl' := 1) (sl' := 1) (pc' := 15) d_jdk_89_method_3_12 rfl (wd64 hw) (wd65 hw) (wd6 hw) rfl rfl (by decide) (by decide) ?_
    intro h1 b1 g1 E1 A1 D1
    have ge2 : n0 ≤ b1 := by rw [g1]; exact Z0
    have sz3 : h0.size ≤ b1 := by rw [g1]; exact K0.1
    have K4 := K0.ext E1
    have Z5 : n0 ≤ h1.size := Nat.le_trans Z0 E1.1
    have F6 : Fld Z h1 b1 "java/lang/Character" "value" "C" (.int (0 : Int32)) := D1 (Or.inr (wd72 hw)) (ty := .char) (by decide)
    refine WP.dup (pc' := 16) d_jdk_89_method_3_15 rfl rfl ?_
    refine WP.iloadN (pc' := 17) d_jdk_89_method_3_16 rfl rfl ?_
    refine WP.callI (a := b1) (argsL := [(.int p)]) (rest := [(.ref b1)]) (wd := 1) (cl' := 1) (sl' := 1) (pc' := 20) d_jdk_89_method_3_17 rfl rfl (wd66 hw) (wd67 hw) (wd6 hw) (wd69 hw) (by decide) (m_ci hw b1 p h1 n0 A1 ge2 F6) pd_0 rfl rfl rfl (Nat.le_of_eq rfl) (by decide) (by decide) rfl rfl (by decide) (by decide) ?_
    rintro v h7 ⟨rfl, K7, E7⟩
    have E8 := A1.keep K7
    have K9 := K4.trans K7 (allS (Or.inr sz3) all0)
    have Z10 : n0 ≤ h7.size := Nat.le_trans Z5 K7.1
    refine WP.castS (st' := [(.ref b1)]) rfl ?_
    refine WP.aret d_jdk_89_method_3_20 rfl rfl rfl (by decide) (by decide) ⟨_, rfl, K9⟩
  · intro hc3
    refine WP.getS (pc' := 9) d_jdk_89_method_3_6 rfl (host := "") (Or.inl (wd8 hw)) Via.refl (S_C) ?_
    refine WP.iloadN (pc' := 10) d_jdk_89_method_3_9 rfl rfl ?_
    have lt1 : p.toInt.toNat < 128 := by rw [Int32.lt_iff_toInt_lt] at hc3; have : (127 : Int32).toInt = 127 := rfl; omega
    obtain ⟨y, hy⟩ := hf _ lt1
    refine WP.aaload (p.toInt.toNat) (pc' := 11) d_jdk_89_method_3_10 rfl A0 rfl (by omega) lt1 hy ?_
    refine WP.aret d_jdk_89_method_3_11 rfl rfl rfl (by decide) (by decide) ⟨_, rfl, K0⟩
theorem d_jdk_32_method_3_0 : decode jdk_32_method_3_code 0 = .ok (.new 2, 3) := by decide +kernel
theorem wd14 {Z : State} {a0 : Array Value} (hw : ∀ d ∈ tables_1, d.before a0 Z = true) : (Jvm.Cond.classLink "java/util/Optional" (2 : Nat) "java/util/Optional").before a0 Z = true := hw _ (List.mem_of_getElem? (i := 14) rfl)
theorem wd12 {Z : State} {a0 : Array Value} (hw : ∀ d ∈ tables_1, d.before a0 Z = true) : (Jvm.Cond.initialized "java/util/Optional").before a0 Z = true := hw _ (List.mem_of_getElem? (i := 12) rfl)
theorem d_jdk_32_method_3_3 : decode jdk_32_method_3_code 3 = .ok (.dup, 1) := by decide +kernel
theorem d_jdk_32_method_3_4 : decode jdk_32_method_3_code 4 = .ok (.aload_n 0, 1) := by decide +kernel
theorem d_jdk_32_method_3_5 : decode jdk_32_method_3_code 5 = .ok (.invokestatic 17, 3) := by decide +kernel
theorem wd16 {Z : State} {a0 : Array Value} (hw : ∀ d ∈ tables_1, d.before a0 Z = true) : (Jvm.Cond.methodLink "java/util/Optional" (17 : Nat) ({ cls := "java/util/Objects", name := "requireNonNull", desc := "(Ljava/lang/Object;)Ljava/lang/Object;" } : Jvm.MethodName)).before a0 Z = true := hw _ (List.mem_of_getElem? (i := 16) rfl)
theorem wd19 {Z : State} {a0 : Array Value} (hw : ∀ d ∈ tables_1, d.before a0 Z = true) : (Jvm.Cond.code ({ cls := "java/util/Objects", name := "requireNonNull", desc := "(Ljava/lang/Object;)Ljava/lang/Object;" } : Jvm.MethodName) jdk_31_method_10_code (1 : Nat) (Option.some (Jvm.ClassFile.FieldType.object "java/lang/Object"))).before a0 Z = true := hw _ (List.mem_of_getElem? (i := 19) rfl)
theorem wd18 {Z : State} {a0 : Array Value} (hw : ∀ d ∈ tables_1, d.before a0 Z = true) : (Jvm.Cond.initialized "java/util/Objects").before a0 Z = true := hw _ (List.mem_of_getElem? (i := 18) rfl)
theorem pd_1 : parseMethodDescriptor "(Ljava/lang/Object;)Ljava/lang/Object;" = some ⟨[(.object "java/lang/Object")], some (.object "java/lang/Object")⟩ := by decide +kernel
theorem wd17 {Z : State} {a0 : Array Value} (hw : ∀ d ∈ tables_1, d.before a0 Z = true) : (Jvm.Cond.static ({ cls := "java/util/Objects", name := "requireNonNull", desc := "(Ljava/lang/Object;)Ljava/lang/Object;" } : Jvm.MethodName)).before a0 Z = true := hw _ (List.mem_of_getElem? (i := 17) rfl)
theorem d_jdk_32_method_3_8 : decode jdk_32_method_3_code 8 = .ok (.invokespecial 23, 3) := by decide +kernel
theorem wd20 {Z : State} {a0 : Array Value} (hw : ∀ d ∈ tables_1, d.before a0 Z = true) : (Jvm.Cond.methodLink "java/util/Optional" (23 : Nat) ({ cls := "java/util/Optional", name := "<init>", desc := "(Ljava/lang/Object;)V" } : Jvm.MethodName)).before a0 Z = true := hw _ (List.mem_of_getElem? (i := 20) rfl)
theorem wd23 {Z : State} {a0 : Array Value} (hw : ∀ d ∈ tables_1, d.before a0 Z = true) : (Jvm.Cond.code ({ cls := "java/util/Optional", name := "<init>", desc := "(Ljava/lang/Object;)V" } : Jvm.MethodName) jdk_32_method_2_code (2 : Nat) (Option.none : Option Jvm.ClassFile.FieldType)).before a0 Z = true := hw _ (List.mem_of_getElem? (i := 23) rfl)
theorem pd_2 : parseMethodDescriptor "(Ljava/lang/Object;)V" = some ⟨[(.object "java/lang/Object")], none⟩ := by decide +kernel
theorem wd21 {Z : State} {a0 : Array Value} (hw : ∀ d ∈ tables_1, d.before a0 Z = true) : (Jvm.Cond.instanceMethod ({ cls := "java/util/Optional", name := "<init>", desc := "(Ljava/lang/Object;)V" } : Jvm.MethodName)).before a0 Z = true := hw _ (List.mem_of_getElem? (i := 21) rfl)
theorem d_jdk_32_method_3_11 : decode jdk_32_method_3_code 11 = .ok (.areturn, 1) := by decide +kernel
set_option maxRecDepth 65536 in
set_option maxHeartbeats 40000000 in
theorem m_of {Z : State} {a0 : Array Value} (hw : ∀ d ∈ tables_1, d.before a0 Z = true) (x : Addr) (h0 : Heap) (n0 : Nat) (Z0 : n0 ≤ h0.size) : ∀ l, Does l Z (⟨"java/util/Optional", "of", "(Ljava/lang/Object;)Ljava/util/Optional;"⟩ : MethodName) jdk_32_method_3_code 1 (some (.object "java/util/Optional")) ({ frames := 2, cells := 1, slots := 1, locals := 26 } : Room) n0 #[(.ref x)] h0 (fun v h => ∃ y : Addr, v = some (.ref y) ∧ Keep h0 h []) := by
  intro l
  refine Does.of_wp (plainFor_of_name pn_3) (Ls := #[.val (.ref x)]) (fun m => by first | (simp [entryFrame, mkF, argsToLocals, Value.category]; done) | rfl) ?_
  intro C
  have K0 := Keep.refl h0 []
  refine WP.newO (cl' := 1) (sl' := 1) (pc' := 3) d_jdk_32_method_3_0 rfl (wd14 hw) (wd15 hw) (wd12 hw) rfl rfl (by decide) (by decide) ?_
  intro h1 b1 g1 E1 A1 D1
  have ge2 : n0 ≤ b1 := by rw [g1]; exact Z0
  have sz3 : h0.size ≤ b1 := by rw [g1]; exact K0.1
  have K4 := K0.ext E1
  have Z5 : n0 ≤ h1.size := Nat.le_trans Z0 E1.1
  have F6 : Fld Z h1 b1 "java/util/Optional" "value" "Ljava/lang/Object;" .null := D1 (Or.inr (wd28 hw)) (ty := (.object "java/lang/Object")) (by decide)
  refine WP.dup (pc' := 4) d_jdk_32_method_3_3 rfl rfl ?_
  refine WP.aloadN (pc' := 5) d_jdk_32_method_3_4 rfl rfl rfl ?_
  refine WP.callS (argsL := [(.ref x)]) (rest := [(.ref b1), (.ref b1)]) (wd := 2) (cl' := 1) (sl' := 1) (pc' := 8) d_jdk_32_method_3_5 rfl (wd16 hw) (wd17 hw) (wd18 hw) (wd19 hw) (by decide) (m_req hw x h1 n0) pd_1 rfl rfl rfl (Nat.le_of_eq rfl) (by decide) (by decide) rfl rfl (by decide) (by decide) ?_
  rintro v hh7 ⟨rfl, he7⟩
  rw [he7]
  refine WP.castS (st' := [(.ref x), (.ref b1), (.ref b1)]) rfl ?_
  refine WP.callI (a := b1) (argsL := [(.ref x)]) (rest := [(.ref b1)]) (wd := 1) (cl' := 1) (sl' := 1) (pc' := 11) d_jdk_32_method_3_8 rfl rfl (wd20 hw) (wd21 hw) (wd12 hw) (wd23 hw) (by decide) (m_oi hw b1 x h1 n0 A1 ge2 F6) pd_2 rfl rfl rfl (Nat.le_of_eq rfl) (by decide) (by decide) rfl rfl (by decide) (by decide) ?_
  rintro v h8 ⟨rfl, K8, E8⟩
  have E9 := A1.keep K8
  have K10 := K4.trans K8 (allS (Or.inr sz3) all0)
  have Z11 : n0 ≤ h8.size := Nat.le_trans Z5 K8.1
  refine WP.castS (st' := [(.ref b1)]) rfl ?_
  refine WP.aret d_jdk_32_method_3_11 rfl rfl rfl (by decide) (by decide) ⟨_, rfl, K10⟩
theorem d_prog_106_method_1_0 : decode prog_106_method_1_code 0 = .ok (.aload_n 0, 1) := by decide +kernel
theorem d_prog_106_method_1_1 : decode prog_106_method_1_code 1 = .ok (.invokespecial 1, 3) := by decide +kernel
theorem wd35 {Z : State} {a0 : Array Value} (hw : ∀ d ∈ tables_1, d.before a0 Z = true) : (Jvm.Cond.methodLink "com/example/labwire/labwire/hl7/Delimiters" (1 : Nat) ({ cls := "java/lang/Record", name := "<init>", desc := "()V" } : Jvm.MethodName)).before a0 Z = true := hw _ (List.mem_of_getElem? (i := 35) rfl)
theorem wd39 {Z : State} {a0 : Array Value} (hw : ∀ d ∈ tables_1, d.before a0 Z = true) : (Jvm.Cond.code ({ cls := "java/lang/Record", name := "<init>", desc := "()V" } : Jvm.MethodName) jdk_30_method_1_code (1 : Nat) (Option.none : Option Jvm.ClassFile.FieldType)).before a0 Z = true := hw _ (List.mem_of_getElem? (i := 39) rfl)
theorem wd38 {Z : State} {a0 : Array Value} (hw : ∀ d ∈ tables_1, d.before a0 Z = true) : (Jvm.Cond.initialized "java/lang/Record").before a0 Z = true := hw _ (List.mem_of_getElem? (i := 38) rfl)
theorem pd_3 : parseMethodDescriptor "()V" = some ⟨[], none⟩ := by decide +kernel
theorem wd36 {Z : State} {a0 : Array Value} (hw : ∀ d ∈ tables_1, d.before a0 Z = true) : (Jvm.Cond.instanceMethod ({ cls := "java/lang/Record", name := "<init>", desc := "()V" } : Jvm.MethodName)).before a0 Z = true := hw _ (List.mem_of_getElem? (i := 36) rfl)
theorem d_prog_106_method_1_4 : decode prog_106_method_1_code 4 = .ok (.aload_n 0, 1) := by decide +kernel
theorem d_prog_106_method_1_5 : decode prog_106_method_1_code 5 = .ok (.iload_n 1, 1) := by decide +kernel
theorem d_prog_106_method_1_6 : decode prog_106_method_1_code 6 = .ok (.putfield 7, 3) := by decide +kernel
theorem wd41 {Z : State} {a0 : Array Value} (hw : ∀ d ∈ tables_1, d.before a0 Z = true) : (Jvm.Cond.fieldLink "com/example/labwire/labwire/hl7/Delimiters" (7 : Nat) "com/example/labwire/labwire/hl7/Delimiters" "field" "C").before a0 Z = true := hw _ (List.mem_of_getElem? (i := 41) rfl)
theorem wd42 {Z : State} {a0 : Array Value} (hw : ∀ d ∈ tables_1, d.before a0 Z = true) : (Jvm.Cond.laysFinal "com/example/labwire/labwire/hl7/Delimiters" "com/example/labwire/labwire/hl7/Delimiters" "field" "C").before a0 Z = true := hw _ (List.mem_of_getElem? (i := 42) rfl)
theorem wd30 {Z : State} {a0 : Array Value} (hw : ∀ d ∈ tables_1, d.before a0 Z = true) : (Jvm.Cond.instantiable "com/example/labwire/labwire/hl7/Delimiters" (6 : Nat)).before a0 Z = true := hw _ (List.mem_of_getElem? (i := 30) rfl)
theorem wd44 {Z : State} {a0 : Array Value} (hw : ∀ d ∈ tables_1, d.before a0 Z = true) : (Jvm.Cond.laysFinal "com/example/labwire/labwire/hl7/Delimiters" "com/example/labwire/labwire/hl7/Delimiters" "component" "C").before a0 Z = true := hw _ (List.mem_of_getElem? (i := 44) rfl)
theorem wd46 {Z : State} {a0 : Array Value} (hw : ∀ d ∈ tables_1, d.before a0 Z = true) : (Jvm.Cond.laysFinal "com/example/labwire/labwire/hl7/Delimiters" "com/example/labwire/labwire/hl7/Delimiters" "repetition" "C").before a0 Z = true := hw _ (List.mem_of_getElem? (i := 46) rfl)
theorem wd48 {Z : State} {a0 : Array Value} (hw : ∀ d ∈ tables_1, d.before a0 Z = true) : (Jvm.Cond.laysFinal "com/example/labwire/labwire/hl7/Delimiters" "com/example/labwire/labwire/hl7/Delimiters" "escape" "C").before a0 Z = true := hw _ (List.mem_of_getElem? (i := 48) rfl)
theorem wd50 {Z : State} {a0 : Array Value} (hw : ∀ d ∈ tables_1, d.before a0 Z = true) : (Jvm.Cond.laysFinal "com/example/labwire/labwire/hl7/Delimiters" "com/example/labwire/labwire/hl7/Delimiters" "subcomponent" "C").before a0 Z = true := hw _ (List.mem_of_getElem? (i := 50) rfl)
theorem wd52 {Z : State} {a0 : Array Value} (hw : ∀ d ∈ tables_1, d.before a0 Z = true) : (Jvm.Cond.laysFinal "com/example/labwire/labwire/hl7/Delimiters" "com/example/labwire/labwire/hl7/Delimiters" "truncation" "Ljava/util/Optional;").before a0 Z = true := hw _ (List.mem_of_getElem? (i := 52) rfl)
theorem d_prog_106_method_1_9 : decode prog_106_method_1_code 9 = .ok (.aload_n 0, 1) := by decide +kernel
theorem d_prog_106_method_1_10 : decode prog_106_method_1_code 10 = .ok (.iload_n 2, 1) := by decide +kernel
theorem d_prog_106_method_1_11 : decode prog_106_method_1_code 11 = .ok (.putfield 13, 3) := by decide +kernel
theorem wd43 {Z : State} {a0 : Array Value} (hw : ∀ d ∈ tables_1, d.before a0 Z = true) : (Jvm.Cond.fieldLink "com/example/labwire/labwire/hl7/Delimiters" (13 : Nat) "com/example/labwire/labwire/hl7/Delimiters" "component" "C").before a0 Z = true := hw _ (List.mem_of_getElem? (i := 43) rfl)
theorem d_prog_106_method_1_14 : decode prog_106_method_1_code 14 = .ok (.aload_n 0, 1) := by decide +kernel
theorem d_prog_106_method_1_15 : decode prog_106_method_1_code 15 = .ok (.iload_n 3, 1) := by decide +kernel
theorem d_prog_106_method_1_16 : decode prog_106_method_1_code 16 = .ok (.putfield 16, 3) := by decide +kernel
theorem wd45 {Z : State} {a0 : Array Value} (hw : ∀ d ∈ tables_1, d.before a0 Z = true) : (Jvm.Cond.fieldLink "com/example/labwire/labwire/hl7/Delimiters" (16 : Nat) "com/example/labwire/labwire/hl7/Delimiters" "repetition" "C").before a0 Z = true := hw _ (List.mem_of_getElem? (i := 45) rfl)
theorem d_prog_106_method_1_19 : decode prog_106_method_1_code 19 = .ok (.aload_n 0, 1) := by decide +kernel
theorem d_prog_106_method_1_20 : decode prog_106_method_1_code 20 = .ok (.iload 4, 2) := by decide +kernel
theorem d_prog_106_method_1_22 : decode prog_106_method_1_code 22 = .ok (.putfield 19, 3) := by decide +kernel
theorem wd47 {Z : State} {a0 : Array Value} (hw : ∀ d ∈ tables_1, d.before a0 Z = true) : (Jvm.Cond.fieldLink "com/example/labwire/labwire/hl7/Delimiters" (19 : Nat) "com/example/labwire/labwire/hl7/Delimiters" "escape" "C").before a0 Z = true := hw _ (List.mem_of_getElem? (i := 47) rfl)
theorem d_prog_106_method_1_25 : decode prog_106_method_1_code 25 = .ok (.aload_n 0, 1) := by decide +kernel
theorem d_prog_106_method_1_26 : decode prog_106_method_1_code 26 = .ok (.iload 5, 2) := by decide +kernel
theorem d_prog_106_method_1_28 : decode prog_106_method_1_code 28 = .ok (.putfield 22, 3) := by decide +kernel
theorem wd49 {Z : State} {a0 : Array Value} (hw : ∀ d ∈ tables_1, d.before a0 Z = true) : (Jvm.Cond.fieldLink "com/example/labwire/labwire/hl7/Delimiters" (22 : Nat) "com/example/labwire/labwire/hl7/Delimiters" "subcomponent" "C").before a0 Z = true := hw _ (List.mem_of_getElem? (i := 49) rfl)
theorem d_prog_106_method_1_31 : decode prog_106_method_1_code 31 = .ok (.aload_n 0, 1) := by decide +kernel
theorem d_prog_106_method_1_32 : decode prog_106_method_1_code 32 = .ok (.aload 6, 2) := by decide +kernel
theorem d_prog_106_method_1_34 : decode prog_106_method_1_code 34 = .ok (.putfield 25, 3) := by decide +kernel
theorem wd51 {Z : State} {a0 : Array Value} (hw : ∀ d ∈ tables_1, d.before a0 Z = true) : (Jvm.Cond.fieldLink "com/example/labwire/labwire/hl7/Delimiters" (25 : Nat) "com/example/labwire/labwire/hl7/Delimiters" "truncation" "Ljava/util/Optional;").before a0 Z = true := hw _ (List.mem_of_getElem? (i := 51) rfl)
theorem d_prog_106_method_1_37 : decode prog_106_method_1_code 37 = .ok (.return_, 1) := by decide +kernel
theorem pn_5 : plainName "com/example/labwire/labwire/hl7/Delimiters" = true := by first | (simp [plainName, overriddenIn]; done) | decide +kernel
set_option maxRecDepth 65536 in
set_option maxHeartbeats 40000000 in
theorem m_di {Z : State} {a0 : Array Value} (hw : ∀ d ∈ tables_1, d.before a0 Z = true) (a : Addr) (p1 : Int32) (p2 : Int32) (p3 : Int32) (p4 : Int32) (p5 : Int32) (x : Addr) (h0 : Heap) (n0 : Nat) (E0 : Exa Z h0 a "com/example/labwire/labwire/hl7/Delimiters") (g0 : n0 ≤ a) (F_field : Fld Z h0 a "com/example/labwire/labwire/hl7/Delimiters" "field" "C" (.int 0)) (F_component : Fld Z h0 a "com/example/labwire/labwire/hl7/Delimiters" "component" "C" (.int 0)) (F_repetition : Fld Z h0 a "com/example/labwire/labwire/hl7/Delimiters" "repetition" "C" (.int 0)) (F_escape : Fld Z h0 a "com/example/labwire/labwire/hl7/Delimiters" "escape" "C" (.int 0)) (F_subcomponent : Fld Z h0 a "com/example/labwire/labwire/hl7/Delimiters" "subcomponent" "C" (.int 0)) (F_t : Fld Z h0 a "com/example/labwire/labwire/hl7/Delimiters" "truncation" "Ljava/util/Optional;" .null) (h_p1 : nar .char p1 = p1) (h_p2 : nar .char p2 = p2) (h_p3 : nar .char p3 = p3) (h_p4 : nar .char p4 = p4) (h_p5 : nar .char p5 = p5) : ∀ l, Does l Z (⟨"com/example/labwire/labwire/hl7/Delimiters", "<init>", "(CCCCCLjava/util/Optional;)V"⟩ : MethodName) prog_106_method_1_code 7 none ({ frames := 2, cells := 0, slots := 0, locals := 24 } : Room) n0 #[(.ref a), (.int p1), (.int p2), (.int p3), (.int p4), (.int p5), (.ref x)] h0 (fun v h => v = none ∧ Keep h0 h [a] ∧ Exa Z h a "com/example/labwire/labwire/hl7/Delimiters" ∧ Fld Z h a "com/example/labwire/labwire/hl7/Delimiters" "field" "C" (.int p1) ∧ Fld Z h a "com/example/labwire/labwire/hl7/Delimiters" "component" "C" (.int p2) ∧ Fld Z h a "com/example/labwire/labwire/hl7/Delimiters" "repetition" "C" (.int p3) ∧ Fld Z h a "com/example/labwire/labwire/hl7/Delimiters" "escape" "C" (.int p4) ∧ Fld Z h a "com/example/labwire/labwire/hl7/Delimiters" "subcomponent" "C" (.int p5)) := by
  intro l
  refine Does.of_wp (plainFor_of_name pn_5) (Ls := #[.val (.ref a), .val (.int p1), .val (.int p2), .val (.int p3), .val (.int p4), .val (.int p5), .val (.ref x)]) (fun m => by first | (simp [entryFrame, mkF, argsToLocals, Value.category]; done) | rfl) ?_
  intro C
  have K0 := Keep.refl h0 [a]
  refine WP.aloadN (pc' := 1) d_prog_106_method_1_0 rfl rfl rfl ?_
  refine WP.callI (a := a) (argsL := []) (rest := []) (wd := 0) (cl' := 0) (sl' := 0) (pc' := 4) d_prog_106_method_1_1 rfl rfl (wd35 hw) (wd36 hw) (wd38 hw) (wd39 hw) (by decide) (m_rec hw a h0 n0) pd_3 rfl rfl rfl (Nat.le_of_eq rfl) (by decide) (by decide) rfl rfl (by decide) (by decide) ?_
  rintro v hh1 ⟨rfl, he1⟩
  rw [he1]
  refine WP.castS (st' := []) rfl ?_
  refine WP.aloadN (pc' := 5) d_prog_106_method_1_4 rfl rfl rfl ?_
  refine WP.iloadN (pc' := 6) d_prog_106_method_1_5 rfl rfl ?_
  refine WP.putFN (pc' := 9) d_prog_106_method_1_6 rfl (wd41 hw) Via.refl F_field E0 (Or.inr ⟨(wd42 hw), rfl, rfl⟩) (wd30 hw) (ty := .char) (v' := (.int p1)) (by decide) (congrArg Value.int h_p1) (by rw [← h_p1]; exact fits_nar_char _) g0 ?_
  intro h2 W3
  have Kw4 := Keep.of_wr W3
  have E5 := E0.keep Kw4
  have K6 := K0.trans Kw4 (allS (Or.inl (by simp)) all0)
  have F8 := F_field.same W3
  have F9 := F_component.other W3 (Or.inr (slot_ne (Or.inr (wd44 hw)) (Or.inr (wd42 hw)) (by decide) (t := .char) (t' := .char) (by decide) (by decide)))
  have F10 := F_repetition.other W3 (Or.inr (slot_ne (Or.inr (wd46 hw)) (Or.inr (wd42 hw)) (by decide) (t := .char) (t' := .char) (by decide) (by decide)))
  have F11 := F_escape.other W3 (Or.inr (slot_ne (Or.inr (wd48 hw)) (Or.inr (wd42 hw)) (by decide) (t := .char) (t' := .char) (by decide) (by decide)))
  have F12 := F_subcomponent.other W3 (Or.inr (slot_ne (Or.inr (wd50 hw)) (Or.inr (wd42 hw)) (by decide) (t := .char) (t' := .char) (by decide) (by decide)))
  have F13 := F_t.other W3 (Or.inr (slot_ne (Or.inr (wd52 hw)) (Or.inr (wd42 hw)) (by decide) (t := (.object "java/util/Optional")) (t' := .char) (by decide) (by decide)))
  refine WP.aloadN (pc' := 10) d_prog_106_method_1_9 rfl rfl rfl ?_
  refine WP.iloadN (pc' := 11) d_prog_106_method_1_10 rfl rfl ?_
  refine WP.putFN (pc' := 14) d_prog_106_method_1_11 rfl (wd43 hw) Via.refl F9 E5 (Or.inr ⟨(wd44 hw), rfl, rfl⟩) (wd30 hw) (ty := .char) (v' := (.int p2)) (by decide) (congrArg Value.int h_p2) (by rw [← h_p2]; exact fits_nar_char _) g0 ?_
  intro h14 W15
  have Kw16 := Keep.of_wr W15
  have E17 := E5.keep Kw16
  have K18 := K6.trans Kw16 (allS (Or.inl (by simp)) all0)
  have F20 := F8.other W15 (Or.inr (slot_ne (Or.inr (wd42 hw)) (Or.inr (wd44 hw)) (by decide) (t := .char) (t' := .char) (by decide) (by decide)))
  have F21 := F9.same W15
  have F22 := F10.other W15 (Or.inr (slot_ne (Or.inr (wd46 hw)) (Or.inr (wd44 hw)) (by decide) (t := .char) (t' := .char) (by decide) (by decide)))
  have F23 := F11.other W15 (Or.inr (slot_ne (Or.inr (wd48 hw)) (Or.inr (wd44 hw)) (by decide) (t := .char) (t' := .char) (by decide) (by decide)))
  have F24 := F12.other W15 (Or.inr (slot_ne (Or.inr (wd50 hw)) (Or.inr (wd44 hw)) (by decide) (t := .char) (t' := .char) (by decide) (by decide)))
  have F25 := F13.other W15 (Or.inr (slot_ne (Or.inr (wd52 hw)) (Or.inr (wd44 hw)) (by decide) (t := (.object "java/util/Optional")) (t' := .char) (by decide) (by decide)))
  refine WP.aloadN (pc' := 15) d_prog_106_method_1_14 rfl rfl rfl ?_
  refine WP.iloadN (pc' := 16) d_prog_106_method_1_15 rfl rfl ?_
  refine WP.putFN (pc' := 19) d_prog_106_method_1_16 rfl (wd45 hw) Via.refl F22 E17 (Or.inr ⟨(wd46 hw), rfl, rfl⟩) (wd30 hw) (ty := .char) (v' := (.int p3)) (by decide) (congrArg Value.int h_p3) (by rw [← h_p3]; exact fits_nar_char _) g0 ?_
  intro h26 W27
  have Kw28 := Keep.of_wr W27
  have E29 := E17.keep Kw28
  have K30 := K18.trans Kw28 (allS (Or.inl (by simp)) all0)
  have F32 := F20.other W27 (Or.inr (slot_ne (Or.inr (wd42 hw)) (Or.inr (wd46 hw)) (by decide) (t := .char) (t' := .char) (by decide) (by decide)))
  have F33 := F21.other W27 (Or.inr (slot_ne (Or.inr (wd44 hw)) (Or.inr (wd46 hw)) (by decide) (t := .char) (t' := .char) (by decide) (by decide)))
  have F34 := F22.same W27
  have F35 := F23.other W27 (Or.inr (slot_ne (Or.inr (wd48 hw)) (Or.inr (wd46 hw)) (by decide) (t := .char) (t' := .char) (by decide) (by decide)))
  have F36 := F24.other W27 (Or.inr (slot_ne (Or.inr (wd50 hw)) (Or.inr (wd46 hw)) (by decide) (t := .char) (t' := .char) (by decide) (by decide)))
  have F37 := F25.other W27 (Or.inr (slot_ne (Or.inr (wd52 hw)) (Or.inr (wd46 hw)) (by decide) (t := (.object "java/util/Optional")) (t' := .char) (by decide) (by decide)))
  refine WP.aloadN (pc' := 20) d_prog_106_method_1_19 rfl rfl rfl ?_
  refine WP.iload (pc' := 22) d_prog_106_method_1_20 rfl rfl ?_
  refine WP.putFN (pc' := 25) d_prog_106_method_1_22 rfl (wd47 hw) Via.refl F35 E29 (Or.inr ⟨(wd48 hw), rfl, rfl⟩) (wd30 hw) (ty := .char) (v' := (.int p4)) (by decide) (congrArg Value.int h_p4) (by rw [← h_p4]; exact fits_nar_char _) g0 ?_
  intro h38 W39
  have Kw40 := Keep.of_wr W39
  have E41 := E29.keep Kw40
  have K42 := K30.trans Kw40 (allS (Or.inl (by simp)) all0)
  have F44 := F32.other W39 (Or.inr (slot_ne (Or.inr (wd42 hw)) (Or.inr (wd48 hw)) (by decide) (t := .char) (t' := .char) (by decide) (by decide)))
  have F45 := F33.other W39 (Or.inr (slot_ne (Or.inr (wd44 hw)) (Or.inr (wd48 hw)) (by decide) (t := .char) (t' := .char) (by decide) (by decide)))
  have F46 := F34.other W39 (Or.inr (slot_ne (Or.inr (wd46 hw)) (Or.inr (wd48 hw)) (by decide) (t := .char) (t' := .char) (by decide) (by decide)))
  have F47 := F35.same W39
  have F48 := F36.other W39 (Or.inr (slot_ne (Or.inr (wd50 hw)) (Or.inr (wd48 hw)) (by decide) (t := .char) (t' := .char) (by decide) (by decide)))
  have F49 := F37.other W39 (Or.inr (slot_ne (Or.inr (wd52 hw)) (Or.inr (wd48 hw)) (by decide) (t := (.object "java/util/Optional")) (t' := .char) (by decide) (by decide)))
  refine WP.aloadN (pc' := 26) d_prog_106_method_1_25 rfl rfl rfl ?_
  refine WP.iload (pc' := 28) d_prog_106_method_1_26 rfl rfl ?_
  refine WP.putFN (pc' := 31) d_prog_106_method_1_28 rfl (wd49 hw) Via.refl F48 E41 (Or.inr ⟨(wd50 hw), rfl, rfl⟩) (wd30 hw) (ty := .char) (v' := (.int p5)) (by decide) (congrArg Value.int h_p5) (by rw [← h_p5]; exact fits_nar_char _) g0 ?_
  intro h50 W51
  have Kw52 := Keep.of_wr W51
  have E53 := E41.keep Kw52
  have K54 := K42.trans Kw52 (allS (Or.inl (by simp)) all0)
  have F56 := F44.other W51 (Or.inr (slot_ne (Or.inr (wd42 hw)) (Or.inr (wd50 hw)) (by decide) (t := .char) (t' := .char) (by decide) (by decide)))
  have F57 := F45.other W51 (Or.inr (slot_ne (Or.inr (wd44 hw)) (Or.inr (wd50 hw)) (by decide) (t := .char) (t' := .char) (by decide) (by decide)))
  have F58 := F46.other W51 (Or.inr (slot_ne (Or.inr (wd46 hw)) (Or.inr (wd50 hw)) (by decide) (t := .char) (t' := .char) (by decide) (by decide)))
  have F59 := F47.other W51 (Or.inr (slot_ne (Or.inr (wd48 hw)) (Or.inr (wd50 hw)) (by decide) (t := .char) (t' := .char) (by decide) (by decide)))
  have F60 := F48.same W51
  have F61 := F49.other W51 (Or.inr (slot_ne (Or.inr (wd52 hw)) (Or.inr (wd50 hw)) (by decide) (t := (.object "java/util/Optional")) (t' := .char) (by decide) (by decide)))
  refine WP.aloadN (pc' := 32) d_prog_106_method_1_31 rfl rfl rfl ?_
  refine WP.aload (pc' := 34) d_prog_106_method_1_32 rfl rfl rfl ?_
  refine WP.putF (pc' := 37) d_prog_106_method_1_34 rfl (host := "") (Or.inl (wd51 hw)) Via.refl F61 E53 (Or.inr ⟨(wd52 hw), rfl, rfl⟩) (wd30 hw) (ty := (.object "java/util/Optional")) (by decide) rfl rfl g0 ?_
  intro h62 W63
  have Kw64 := Keep.of_wr W63
  have E65 := E53.keep Kw64
  have K66 := K54.trans Kw64 (allS (Or.inl (by simp)) all0)
  have F68 := F56.other W63 (Or.inr (slot_ne (Or.inr (wd42 hw)) (Or.inr (wd52 hw)) (by decide) (t := .char) (t' := (.object "java/util/Optional")) (by decide) (by decide)))
  have F69 := F57.other W63 (Or.inr (slot_ne (Or.inr (wd44 hw)) (Or.inr (wd52 hw)) (by decide) (t := .char) (t' := (.object "java/util/Optional")) (by decide) (by decide)))
  have F70 := F58.other W63 (Or.inr (slot_ne (Or.inr (wd46 hw)) (Or.inr (wd52 hw)) (by decide) (t := .char) (t' := (.object "java/util/Optional")) (by decide) (by decide)))
  have F71 := F59.other W63 (Or.inr (slot_ne (Or.inr (wd48 hw)) (Or.inr (wd52 hw)) (by decide) (t := .char) (t' := (.object "java/util/Optional")) (by decide) (by decide)))
  have F72 := F60.other W63 (Or.inr (slot_ne (Or.inr (wd50 hw)) (Or.inr (wd52 hw)) (by decide) (t := .char) (t' := (.object "java/util/Optional")) (by decide) (by decide)))
  have F73 := F61.same W63
  exact WP.vret d_prog_106_method_1_37 rfl (by decide) (by decide) ⟨rfl, K66, E65, F68, F69, F70, F71, F72⟩
theorem d_prog_106_method_10_0 : decode prog_106_method_10_code 0 = .ok (.aload_n 0, 1) := by decide +kernel
theorem d_prog_106_method_10_1 : decode prog_106_method_10_code 1 = .ok (.getfield 7, 3) := by decide +kernel
theorem d_prog_106_method_10_4 : decode prog_106_method_10_code 4 = .ok (.getstatic 140, 3) := by decide +kernel
theorem wd58 {Z : State} {a0 : Array Value} (hw : ∀ d ∈ tables_1, d.before a0 Z = true) : (Jvm.Cond.fieldLink "com/example/labwire/labwire/hl7/Delimiters" (140 : Nat) "com/example/labwire/labwire/hl7/Delimiters" "STANDARD" "Lcom/example/labwire/labwire/hl7/Delimiters;").before a0 Z = true := hw _ (List.mem_of_getElem? (i := 58) rfl)
theorem d_prog_106_method_10_7 : decode prog_106_method_10_code 7 = .ok (.getfield 7, 3) := by decide +kernel
theorem d_prog_106_method_10_10 : decode prog_106_method_10_code 10 = .ok (.if_icmp .ne 59, 3) := by decide +kernel
theorem d_prog_106_method_10_69 : decode prog_106_method_10_code 69 = .ok (.iconst 0, 1) := by decide +kernel
theorem d_prog_106_method_10_70 : decode prog_106_method_10_code 70 = .ok (.ireturn, 1) := by decide +kernel
theorem d_prog_106_method_10_13 : decode prog_106_method_10_code 13 = .ok (.aload_n 0, 1) := by decide +kernel
theorem d_prog_106_method_10_14 : decode prog_106_method_10_code 14 = .ok (.getfield 13, 3) := by decide +kernel
theorem d_prog_106_method_10_17 : decode prog_106_method_10_code 17 = .ok (.getstatic 140, 3) := by decide +kernel
theorem d_prog_106_method_10_20 : decode prog_106_method_10_code 20 = .ok (.getfield 13, 3) := by decide +kernel
theorem d_prog_106_method_10_23 : decode prog_106_method_10_code 23 = .ok (.if_icmp .ne 46, 3) := by decide +kernel
theorem d_prog_106_method_10_26 : decode prog_106_method_10_code 26 = .ok (.aload_n 0, 1) := by decide +kernel
theorem d_prog_106_method_10_27 : decode prog_106_method_10_code 27 = .ok (.getfield 16, 3) := by decide +kernel
theorem d_prog_106_method_10_30 : decode prog_106_method_10_code 30 = .ok (.getstatic 140, 3) := by decide +kernel
theorem d_prog_106_method_10_33 : decode prog_106_method_10_code 33 = .ok (.getfield 16, 3) := by decide +kernel
theorem d_prog_106_method_10_36 : decode prog_106_method_10_code 36 = .ok (.if_icmp .ne 33, 3) := by decide +kernel
theorem d_prog_106_method_10_39 : decode prog_106_method_10_code 39 = .ok (.aload_n 0, 1) := by decide +kernel
theorem d_prog_106_method_10_40 : decode prog_106_method_10_code 40 = .ok (.getfield 19, 3) := by decide +kernel
theorem d_prog_106_method_10_43 : decode prog_106_method_10_code 43 = .ok (.getstatic 140, 3) := by decide +kernel
theorem d_prog_106_method_10_46 : decode prog_106_method_10_code 46 = .ok (.getfield 19, 3) := by decide +kernel
theorem d_prog_106_method_10_49 : decode prog_106_method_10_code 49 = .ok (.if_icmp .ne 20, 3) := by decide +kernel
theorem d_prog_106_method_10_52 : decode prog_106_method_10_code 52 = .ok (.aload_n 0, 1) := by decide +kernel
theorem d_prog_106_method_10_53 : decode prog_106_method_10_code 53 = .ok (.getfield 22, 3) := by decide +kernel
theorem d_prog_106_method_10_56 : decode prog_106_method_10_code 56 = .ok (.getstatic 140, 3) := by decide +kernel
theorem d_prog_106_method_10_59 : decode prog_106_method_10_code 59 = .ok (.getfield 22, 3) := by decide +kernel
theorem d_prog_106_method_10_62 : decode prog_106_method_10_code 62 = .ok (.if_icmp .ne 7, 3) := by decide +kernel
theorem d_prog_106_method_10_65 : decode prog_106_method_10_code 65 = .ok (.iconst 1, 1) := by decide +kernel
theorem d_prog_106_method_10_66 : decode prog_106_method_10_code 66 = .ok (.goto 4, 3) := by decide +kernel
set_option maxRecDepth 65536 in
set_option maxHeartbeats 40000000 in
theorem m_is {Z : State} {a0 : Array Value} (hw : ∀ d ∈ tables_1, d.before a0 Z = true) (a : Addr) (h0 : Heap) (n0 : Nat) (p1 p2 p3 p4 p5 : Int32) (F_field : Fld Z h0 a "com/example/labwire/labwire/hl7/Delimiters" "field" "C" (.int p1)) (F_component : Fld Z h0 a "com/example/labwire/labwire/hl7/Delimiters" "component" "C" (.int p2)) (F_repetition : Fld Z h0 a "com/example/labwire/labwire/hl7/Delimiters" "repetition" "C" (.int p3)) (F_escape : Fld Z h0 a "com/example/labwire/labwire/hl7/Delimiters" "escape" "C" (.int p4)) (F_subcomponent : Fld Z h0 a "com/example/labwire/labwire/hl7/Delimiters" "subcomponent" "C" (.int p5)) (aS : Addr) (S_S : Sta Z h0 "com/example/labwire/labwire/hl7/Delimiters" "STANDARD" "Lcom/example/labwire/labwire/hl7/Delimiters;" (.ref aS)) (G_field : Fld Z h0 aS "com/example/labwire/labwire/hl7/Delimiters" "field" "C" (.int 124)) (G_component : Fld Z h0 aS "com/example/labwire/labwire/hl7/Delimiters" "component" "C" (.int 94)) (G_repetition : Fld Z h0 aS "com/example/labwire/labwire/hl7/Delimiters" "repetition" "C" (.int 126)) (G_escape : Fld Z h0 aS "com/example/labwire/labwire/hl7/Delimiters" "escape" "C" (.int 92)) (G_subcomponent : Fld Z h0 aS "com/example/labwire/labwire/hl7/Delimiters" "subcomponent" "C" (.int 38)) : ∀ l, Does l Z (⟨"com/example/labwire/labwire/hl7/Delimiters", "isStandard", "()Z"⟩ : MethodName) prog_106_method_10_code 1 (some .boolean) ({ frames := 0, cells := 0, slots := 0, locals := 0 } : Room) n0 #[(.ref a)] h0 (fun v h => v = some (.int (b2i (decide (p1 = 124 ∧ p2 = 94 ∧ p3 = 126 ∧ p4 = 92 ∧ p5 = 38)))) ∧ h = h0) := by
  intro l
  refine Does.of_wp (plainFor_of_name pn_5) (Ls := #[.val (.ref a)]) (fun m => by first | (simp [entryFrame, mkF, argsToLocals, Value.category]; done) | rfl) ?_
  intro C
  refine WP.aloadN (pc' := 1) d_prog_106_method_10_0 rfl rfl rfl ?_
  refine WP.getF (pc' := 4) d_prog_106_method_10_1 rfl (host := "") (Or.inl (wd41 hw)) Via.refl F_field ?_
  refine WP.getS (pc' := 7) d_prog_106_method_10_4 rfl (host := "") (Or.inl (wd58 hw)) Via.refl (S_S) ?_
  refine WP.getF (pc' := 10) d_prog_106_method_10_7 rfl (host := "") (Or.inl (wd41 hw)) Via.refl G_field ?_
  refine WP.icmp_ne (pc1 := 69) (pc2 := 13) d_prog_106_method_10_10 (by decide) (by decide) rfl ?_ ?_
  · intro hc10
    refine WP.iconst (pc' := 70) d_prog_106_method_10_69 rfl (z := 0) rfl ?_
    refine WP.nret (t := .boolean) d_prog_106_method_10_70 rfl (by simp) rfl (by decide) (by decide) ⟨b2i_f fun z => hc10 z.1, rfl⟩
  · intro hc10
    refine WP.aloadN (pc' := 14) d_prog_106_method_10_13 rfl rfl rfl ?_
    refine WP.getF (pc' := 17) d_prog_106_method_10_14 rfl (host := "") (Or.inl (wd43 hw)) Via.refl F_component ?_
    refine WP.getS (pc' := 20) d_prog_106_method_10_17 rfl (host := "") (Or.inl (wd58 hw)) Via.refl (S_S) ?_
    refine WP.getF (pc' := 23) d_prog_106_method_10_20 rfl (host := "") (Or.inl (wd43 hw)) Via.refl G_component ?_
    refine WP.icmp_ne (pc1 := 69) (pc2 := 26) d_prog_106_method_10_23 (by decide) (by decide) rfl ?_ ?_
    · intro hc23
      refine WP.iconst (pc' := 70) d_prog_106_method_10_69 rfl (z := 0) rfl ?_
      refine WP.nret (t := .boolean) d_prog_106_method_10_70 rfl (by simp) rfl (by decide) (by decide) ⟨b2i_f fun z => hc23 z.2.1, rfl⟩
    · intro hc23
      refine WP.aloadN (pc' := 27) d_prog_106_method_10_26 rfl rfl rfl ?_
      refine WP.getF (pc' := 30) d_prog_106_method_10_27 rfl (host := "") (Or.inl (wd45 hw)) Via.refl F_repetition ?_
      refine WP.getS (pc' := 33) d_prog_106_method_10_30 rfl (host := "") (Or.inl (wd58 hw)) Via.refl (S_S) ?_
      refine WP.getF (pc' := 36) d_prog_106_method_10_33 rfl (host := "") (Or.inl (wd45 hw)) Via.refl G_repetition ?_
      refine WP.icmp_ne (pc1 := 69) (pc2 := 39) d_prog_106_method_10_36 (by decide) (by decide) rfl ?_ ?_
      · intro hc36
        refine WP.iconst (pc' := 70) d_prog_106_method_10_69 rfl (z := 0) rfl ?_
        refine WP.nret (t := .boolean) d_prog_106_method_10_70 rfl (by simp) rfl (by decide) (by decide) ⟨b2i_f fun z => hc36 z.2.2.1, rfl⟩
      · intro hc36
        refine WP.aloadN (pc' := 40) d_prog_106_method_10_39 rfl rfl rfl ?_
        refine WP.getF (pc' := 43) d_prog_106_method_10_40 rfl (host := "") (Or.inl (wd47 hw)) Via.refl F_escape ?_
        refine WP.getS (pc' := 46) d_prog_106_method_10_43 rfl (host := "") (Or.inl (wd58 hw)) Via.refl (S_S) ?_
        refine WP.getF (pc' := 49) d_prog_106_method_10_46 rfl (host := "") (Or.inl (wd47 hw)) Via.refl G_escape ?_
        refine WP.icmp_ne (pc1 := 69) (pc2 := 52) d_prog_106_method_10_49 (by decide) (by decide) rfl ?_ ?_
        · intro hc49
          refine WP.iconst (pc' := 70) d_prog_106_method_10_69 rfl (z := 0) rfl ?_
          refine WP.nret (t := .boolean) d_prog_106_method_10_70 rfl (by simp) rfl (by decide) (by decide) ⟨b2i_f fun z => hc49 z.2.2.2.1, rfl⟩
        · intro hc49
          refine WP.aloadN (pc' := 53) d_prog_106_method_10_52 rfl rfl rfl ?_
          refine WP.getF (pc' := 56) d_prog_106_method_10_53 rfl (host := "") (Or.inl (wd49 hw)) Via.refl F_subcomponent ?_
          refine WP.getS (pc' := 59) d_prog_106_method_10_56 rfl (host := "") (Or.inl (wd58 hw)) Via.refl (S_S) ?_
          refine WP.getF (pc' := 62) d_prog_106_method_10_59 rfl (host := "") (Or.inl (wd49 hw)) Via.refl G_subcomponent ?_
          refine WP.icmp_ne (pc1 := 69) (pc2 := 65) d_prog_106_method_10_62 (by decide) (by decide) rfl ?_ ?_
          · intro hc62
            refine WP.iconst (pc' := 70) d_prog_106_method_10_69 rfl (z := 0) rfl ?_
            refine WP.nret (t := .boolean) d_prog_106_method_10_70 rfl (by simp) rfl (by decide) (by decide) ⟨b2i_f fun z => hc62 z.2.2.2.2, rfl⟩
          · intro hc62
            refine WP.iconst (pc' := 66) d_prog_106_method_10_65 rfl (z := 1) rfl ?_
            refine WP.goto (pc' := 70) d_prog_106_method_10_66 (by decide) (by decide) ?_
            refine WP.nret (t := .boolean) d_prog_106_method_10_70 rfl (by simp) rfl (by decide) (by decide) ⟨b2i_t ⟨hc10, hc23, hc36, hc49, hc62⟩, rfl⟩
theorem wd0 {Z : State} {a0 : Array Value} (hw : ∀ d ∈ tables_1, d.before a0 Z = true) : (Jvm.Cond.methodLink "com/example/labwire/labwire/hl7/DelimitersIsStandardPinLaw" (7 : Nat) ({ cls := "com/example/labwire/labwire/hl7/DelimitersIsStandardPinLaw", name := "pick", desc := "(IC)C" } : Jvm.MethodName)).before a0 Z = true := hw _ (List.mem_of_getElem? (i := 0) rfl)
theorem wd3 {Z : State} {a0 : Array Value} (hw : ∀ d ∈ tables_1, d.before a0 Z = true) : (Jvm.Cond.code ({ cls := "com/example/labwire/labwire/hl7/DelimitersIsStandardPinLaw", name := "pick", desc := "(IC)C" } : Jvm.MethodName) method_2_code (2 : Nat) (Option.some Jvm.ClassFile.FieldType.char)).before a0 Z = true := hw _ (List.mem_of_getElem? (i := 3) rfl)
theorem wd2 {Z : State} {a0 : Array Value} (hw : ∀ d ∈ tables_1, d.before a0 Z = true) : (Jvm.Cond.initialized "com/example/labwire/labwire/hl7/DelimitersIsStandardPinLaw").before a0 Z = true := hw _ (List.mem_of_getElem? (i := 2) rfl)
theorem pd_4 : parseMethodDescriptor "(IC)C" = some ⟨[.int, .char], some .char⟩ := by decide +kernel
theorem wd1 {Z : State} {a0 : Array Value} (hw : ∀ d ∈ tables_1, d.before a0 Z = true) : (Jvm.Cond.static ({ cls := "com/example/labwire/labwire/hl7/DelimitersIsStandardPinLaw", name := "pick", desc := "(IC)C" } : Jvm.MethodName)).before a0 Z = true := hw _ (List.mem_of_getElem? (i := 1) rfl)
theorem wd60 {Z : State} {a0 : Array Value} (hw : ∀ d ∈ tables_1, d.before a0 Z = true) : (Jvm.Cond.methodLink "com/example/labwire/labwire/hl7/DelimitersIsStandardPinLaw" (25 : Nat) ({ cls := "java/util/Optional", name := "empty", desc := "()Ljava/util/Optional;" } : Jvm.MethodName)).before a0 Z = true := hw _ (List.mem_of_getElem? (i := 60) rfl)
theorem wd62 {Z : State} {a0 : Array Value} (hw : ∀ d ∈ tables_1, d.before a0 Z = true) : (Jvm.Cond.code ({ cls := "java/util/Optional", name := "empty", desc := "()Ljava/util/Optional;" } : Jvm.MethodName) jdk_32_method_1_code (1 : Nat) (Option.some (Jvm.ClassFile.FieldType.object "java/util/Optional"))).before a0 Z = true := hw _ (List.mem_of_getElem? (i := 62) rfl)
theorem pd_5 : parseMethodDescriptor "()Ljava/util/Optional;" = some ⟨[], some (.object "java/util/Optional")⟩ := by decide +kernel
theorem wd61 {Z : State} {a0 : Array Value} (hw : ∀ d ∈ tables_1, d.before a0 Z = true) : (Jvm.Cond.static ({ cls := "java/util/Optional", name := "empty", desc := "()Ljava/util/Optional;" } : Jvm.MethodName)).before a0 Z = true := hw _ (List.mem_of_getElem? (i := 61) rfl)
theorem wd29 {Z : State} {a0 : Array Value} (hw : ∀ d ∈ tables_1, d.before a0 Z = true) : (Jvm.Cond.classLink "com/example/labwire/labwire/hl7/DelimitersIsStandardPinLaw" (29 : Nat) "com/example/labwire/labwire/hl7/Delimiters").before a0 Z = true := hw _ (List.mem_of_getElem? (i := 29) rfl)
theorem wd31 {Z : State} {a0 : Array Value} (hw : ∀ d ∈ tables_1, d.before a0 Z = true) : (Jvm.Cond.initialized "com/example/labwire/labwire/hl7/Delimiters").before a0 Z = true := hw _ (List.mem_of_getElem? (i := 31) rfl)
theorem wd32 {Z : State} {a0 : Array Value} (hw : ∀ d ∈ tables_1, d.before a0 Z = true) : (Jvm.Cond.methodLink "com/example/labwire/labwire/hl7/DelimitersIsStandardPinLaw" (31 : Nat) ({ cls := "com/example/labwire/labwire/hl7/Delimiters", name := "<init>", desc := "(CCCCCLjava/util/Optional;)V" } : Jvm.MethodName)).before a0 Z = true := hw _ (List.mem_of_getElem? (i := 32) rfl)
theorem wd34 {Z : State} {a0 : Array Value} (hw : ∀ d ∈ tables_1, d.before a0 Z = true) : (Jvm.Cond.code ({ cls := "com/example/labwire/labwire/hl7/Delimiters", name := "<init>", desc := "(CCCCCLjava/util/Optional;)V" } : Jvm.MethodName) prog_106_method_1_code (7 : Nat) (Option.none : Option Jvm.ClassFile.FieldType)).before a0 Z = true := hw _ (List.mem_of_getElem? (i := 34) rfl)
theorem pd_6 : parseMethodDescriptor "(CCCCCLjava/util/Optional;)V" = some ⟨[.char, .char, .char, .char, .char, (.object "java/util/Optional")], none⟩ := by decide +kernel
theorem wd33 {Z : State} {a0 : Array Value} (hw : ∀ d ∈ tables_1, d.before a0 Z = true) : (Jvm.Cond.instanceMethod ({ cls := "com/example/labwire/labwire/hl7/Delimiters", name := "<init>", desc := "(CCCCCLjava/util/Optional;)V" } : Jvm.MethodName)).before a0 Z = true := hw _ (List.mem_of_getElem? (i := 33) rfl)
theorem wd53 {Z : State} {a0 : Array Value} (hw : ∀ d ∈ tables_1, d.before a0 Z = true) : (Jvm.Cond.methodLink "com/example/labwire/labwire/hl7/DelimitersIsStandardPinLaw" (34 : Nat) ({ cls := "com/example/labwire/labwire/hl7/Delimiters", name := "isStandard", desc := "()Z" } : Jvm.MethodName)).before a0 Z = true := hw _ (List.mem_of_getElem? (i := 53) rfl)
theorem wd57 {Z : State} {a0 : Array Value} (hw : ∀ d ∈ tables_1, d.before a0 Z = true) : (Jvm.Cond.code ({ cls := "com/example/labwire/labwire/hl7/Delimiters", name := "isStandard", desc := "()Z" } : Jvm.MethodName) prog_106_method_10_code (1 : Nat) (Option.some Jvm.ClassFile.FieldType.boolean)).before a0 Z = true := hw _ (List.mem_of_getElem? (i := 57) rfl)
theorem pd_7 : parseMethodDescriptor "()Z" = some ⟨[], some .boolean⟩ := by decide +kernel
theorem wd56 {Z : State} {a0 : Array Value} (hw : ∀ d ∈ tables_1, d.before a0 Z = true) : (Jvm.Cond.selects "com/example/labwire/labwire/hl7/Delimiters" ({ cls := "com/example/labwire/labwire/hl7/Delimiters", name := "isStandard", desc := "()Z" } : Jvm.MethodName) ({ cls := "com/example/labwire/labwire/hl7/Delimiters", name := "isStandard", desc := "()Z" } : Jvm.MethodName)).before a0 Z = true := hw _ (List.mem_of_getElem? (i := 56) rfl)
theorem wd54 {Z : State} {a0 : Array Value} (hw : ∀ d ∈ tables_1, d.before a0 Z = true) : (Jvm.Cond.declares ({ cls := "com/example/labwire/labwire/hl7/Delimiters", name := "isStandard", desc := "()Z" } : Jvm.MethodName)).before a0 Z = true := hw _ (List.mem_of_getElem? (i := 54) rfl)
theorem wd55 {Z : State} {a0 : Array Value} (hw : ∀ d ∈ tables_1, d.before a0 Z = true) : (Jvm.Cond.instanceMethod ({ cls := "com/example/labwire/labwire/hl7/Delimiters", name := "isStandard", desc := "()Z" } : Jvm.MethodName)).before a0 Z = true := hw _ (List.mem_of_getElem? (i := 55) rfl)
theorem wd4 {Z : State} {a0 : Array Value} (hw : ∀ d ∈ tables_1, d.before a0 Z = true) : (Jvm.Cond.methodLink "com/example/labwire/labwire/hl7/DelimitersIsStandardPinLaw" (13 : Nat) ({ cls := "java/lang/Character", name := "valueOf", desc := "(C)Ljava/lang/Character;" } : Jvm.MethodName)).before a0 Z = true := hw _ (List.mem_of_getElem? (i := 4) rfl)
theorem wd7 {Z : State} {a0 : Array Value} (hw : ∀ d ∈ tables_1, d.before a0 Z = true) : (Jvm.Cond.code ({ cls := "java/lang/Character", name := "valueOf", desc := "(C)Ljava/lang/Character;" } : Jvm.MethodName) jdk_89_method_3_code (1 : Nat) (Option.some (Jvm.ClassFile.FieldType.object "java/lang/Character"))).before a0 Z = true := hw _ (List.mem_of_getElem? (i := 7) rfl)
theorem pd_8 : parseMethodDescriptor "(C)Ljava/lang/Character;" = some ⟨[.char], some (.object "java/lang/Character")⟩ := by decide +kernel
theorem wd5 {Z : State} {a0 : Array Value} (hw : ∀ d ∈ tables_1, d.before a0 Z = true) : (Jvm.Cond.static ({ cls := "java/lang/Character", name := "valueOf", desc := "(C)Ljava/lang/Character;" } : Jvm.MethodName)).before a0 Z = true := hw _ (List.mem_of_getElem? (i := 5) rfl)
theorem wd10 {Z : State} {a0 : Array Value} (hw : ∀ d ∈ tables_1, d.before a0 Z = true) : (Jvm.Cond.methodLink "com/example/labwire/labwire/hl7/DelimitersIsStandardPinLaw" (19 : Nat) ({ cls := "java/util/Optional", name := "of", desc := "(Ljava/lang/Object;)Ljava/util/Optional;" } : Jvm.MethodName)).before a0 Z = true := hw _ (List.mem_of_getElem? (i := 10) rfl)
theorem wd13 {Z : State} {a0 : Array Value} (hw : ∀ d ∈ tables_1, d.before a0 Z = true) : (Jvm.Cond.code ({ cls := "java/util/Optional", name := "of", desc := "(Ljava/lang/Object;)Ljava/util/Optional;" } : Jvm.MethodName) jdk_32_method_3_code (1 : Nat) (Option.some (Jvm.ClassFile.FieldType.object "java/util/Optional"))).before a0 Z = true := hw _ (List.mem_of_getElem? (i := 13) rfl)
theorem pd_9 : parseMethodDescriptor "(Ljava/lang/Object;)Ljava/util/Optional;" = some ⟨[(.object "java/lang/Object")], some (.object "java/util/Optional")⟩ := by decide +kernel
theorem wd11 {Z : State} {a0 : Array Value} (hw : ∀ d ∈ tables_1, d.before a0 Z = true) : (Jvm.Cond.static ({ cls := "java/util/Optional", name := "of", desc := "(Ljava/lang/Object;)Ljava/util/Optional;" } : Jvm.MethodName)).before a0 Z = true := hw _ (List.mem_of_getElem? (i := 11) rfl)
set_option maxRecDepth 65536 in
set_option maxHeartbeats 40000000 in
theorem rm0 {Z : State} {a0 : Array Value} (hw : ∀ d ∈ tables_1, d.before a0 Z = true) (x0 : Int32) (x1 : Int32) (x2 : Int32) (x3 : Int32) (x4 : Int32) (x5 : Int32) (h0 : Heap) (n0 : Nat) (Z0 : n0 ≤ h0.size) (O0 : Old Z n0 h0) (aS : Addr) (S_S : Sta Z Z.heap "com/example/labwire/labwire/hl7/Delimiters" "STANDARD" "Lcom/example/labwire/labwire/hl7/Delimiters;" (.ref aS)) (G_field : Fld Z h0 aS "com/example/labwire/labwire/hl7/Delimiters" "field" "C" (.int 124)) (G_component : Fld Z h0 aS "com/example/labwire/labwire/hl7/Delimiters" "component" "C" (.int 94)) (G_repetition : Fld Z h0 aS "com/example/labwire/labwire/hl7/Delimiters" "repetition" "C" (.int 126)) (G_escape : Fld Z h0 aS "com/example/labwire/labwire/hl7/Delimiters" "escape" "C" (.int 92)) (G_subcomponent : Fld Z h0 aS "com/example/labwire/labwire/hl7/Delimiters" "subcomponent" "C" (.int 38)) (aC : Addr) (fC : Nat → Value) (S_C : Sta Z Z.heap "java/lang/Character$CharacterCache" "cache" "[Ljava/lang/Character;" (.ref aC)) (A_C : Arf Z h0 aC (.object "java/lang/Character") 128 fC) (hfC : ∀ i, i < 128 → ∃ y, fC i = .ref y) (aE : Addr) (S_E : Sta Z Z.heap "java/util/Optional" "EMPTY" "Ljava/util/Optional;" (.ref aE)) : ∀ l, Does l Z x code maxLocals ret room_1 n0 #[(.int x0), (.int x1), (.int x2), (.int x3), (.int x4), (.int x5)] h0 (fun v _ => v = some (.int 1)) := by
  intro l
  refine Does.of_wp (plainFor_of_name pn_0) (Ls := #[.val (.int x0), .val (.int x1), .val (.int x2), .val (.int x3), .val (.int x4), .val (.int x5), .unset, .unset, .unset, .unset, .unset, .unset, .unset, .unset]) (fun m => by first | (simp [entryFrame, mkF, argsToLocals, Value.category, maxLocals]; done) | rfl) ?_
  intro C
  refine WP.iloadN (pc' := 1) at_0 rfl rfl ?_
  refine WP.bipush (pc' := 3) at_1 rfl (z := 124) rfl ?_
  refine WP.callS (argsL := [(.int x0), (.int (124 : Int32))]) (rest := []) (wd := 0) (cl' := 0) (sl' := 0) (pc' := 6) at_3 rfl (wd0 hw) (wd1 hw) (wd2 hw) (wd3 hw) (by decide) (m_pick hw x0 (124 : Int32) h0 n0) pd_4 rfl rfl rfl (Nat.le_of_eq rfl) (by decide) (by decide) rfl rfl (by decide) (by decide) ?_
  rintro v hh2 ⟨⟨z1, rfl, h_z1⟩, he2⟩
  rw [he2]
  refine WP.castS (st' := [(.int z1)]) rfl ?_
  refine WP.istore (pc' := 8) at_6 rfl (Ls' := #[.val (.int x0), .val (.int x1), .val (.int x2), .val (.int x3), .val (.int x4), .val (.int x5), .val (.int z1), .unset, .unset, .unset, .unset, .unset, .unset, .unset]) rfl ?_
  refine WP.iloadN (pc' := 9) at_8 rfl rfl ?_
  refine WP.bipush (pc' := 11) at_9 rfl (z := 94) rfl ?_
  refine WP.callS (argsL := [(.int x1), (.int (94 : Int32))]) (rest := []) (wd := 0) (cl' := 0) (sl' := 0) (pc' := 14) at_11 rfl (wd0 hw) (wd1 hw) (wd2 hw) (wd3 hw) (by decide) (m_pick hw x1 (94 : Int32) h0 n0) pd_4 rfl rfl rfl (Nat.le_of_eq rfl) (by decide) (by decide) rfl rfl (by decide) (by decide) ?_
  rintro v hh4 ⟨⟨z3, rfl, h_z3⟩, he4⟩
  rw [he4]
  refine WP.castS (st' := [(.int z3)]) rfl ?_
  refine WP.istore (pc' := 16) at_14 rfl (Ls' := #[.val (.int x0), .val (.int x1), .val (.int x2), .val (.int x3), .val (.int x4), .val (.int x5), .val (.int z1), .val (.int z3), .unset, .unset, .unset, .unset, .unset, .unset]) rfl ?_
  refine WP.iloadN (pc' := 17) at_16 rfl rfl ?_
  refine WP.bipush (pc' := 19) at_17 rfl (z := 126) rfl ?_
  refine WP.callS (argsL := [(.int x2), (.int (126 : Int32))]) (rest := []) (wd := 0) (cl' := 0) (sl' := 0) (pc' := 22) at_19 rfl (wd0 hw) (wd1 hw) (wd2 hw) (wd3 hw) (by decide) (m_pick hw x2 (126 : Int32) h0 n0) pd_4 rfl rfl rfl (Nat.le_of_eq rfl) (by decide) (by decide) rfl rfl (by decide) (by decide) ?_
  rintro v hh6 ⟨⟨z5, rfl, h_z5⟩, he6⟩
  rw [he6]
  refine WP.castS (st' := [(.int z5)]) rfl ?_
  refine WP.istore (pc' := 24) at_22 rfl (Ls' := #[.val (.int x0), .val (.int x1), .val (.int x2), .val (.int x3), .val (.int x4), .val (.int x5), .val (.int z1), .val (.int z3), .val (.int z5), .unset, .unset, .unset, .unset, .unset]) rfl ?_
  refine WP.iloadN (pc' := 25) at_24 rfl rfl ?_
  refine WP.bipush (pc' := 27) at_25 rfl (z := 92) rfl ?_
  refine WP.callS (argsL := [(.int x3), (.int (92 : Int32))]) (rest := []) (wd := 0) (cl' := 0) (sl' := 0) (pc' := 30) at_27 rfl (wd0 hw) (wd1 hw) (wd2 hw) (wd3 hw) (by decide) (m_pick hw x3 (92 : Int32) h0 n0) pd_4 rfl rfl rfl (Nat.le_of_eq rfl) (by decide) (by decide) rfl rfl (by decide) (by decide) ?_
  rintro v hh8 ⟨⟨z7, rfl, h_z7⟩, he8⟩
  rw [he8]
  refine WP.castS (st' := [(.int z7)]) rfl ?_
  refine WP.istore (pc' := 32) at_30 rfl (Ls' := #[.val (.int x0), .val (.int x1), .val (.int x2), .val (.int x3), .val (.int x4), .val (.int x5), .val (.int z1), .val (.int z3), .val (.int z5), .val (.int z7), .unset, .unset, .unset, .unset]) rfl ?_
  refine WP.iload (pc' := 34) at_32 rfl rfl ?_
  refine WP.bipush (pc' := 36) at_34 rfl (z := 38) rfl ?_
  refine WP.callS (argsL := [(.int x4), (.int (38 : Int32))]) (rest := []) (wd := 0) (cl' := 0) (sl' := 0) (pc' := 39) at_36 rfl (wd0 hw) (wd1 hw) (wd2 hw) (wd3 hw) (by decide) (m_pick hw x4 (38 : Int32) h0 n0) pd_4 rfl rfl rfl (Nat.le_of_eq rfl) (by decide) (by decide) rfl rfl (by decide) (by decide) ?_
  rintro v hh10 ⟨⟨z9, rfl, h_z9⟩, he10⟩
  rw [he10]
  refine WP.castS (st' := [(.int z9)]) rfl ?_
  refine WP.istore (pc' := 41) at_39 rfl (Ls' := #[.val (.int x0), .val (.int x1), .val (.int x2), .val (.int x3), .val (.int x4), .val (.int x5), .val (.int z1), .val (.int z3), .val (.int z5), .val (.int z7), .val (.int z9), .unset, .unset, .unset]) rfl ?_
  refine WP.iload (pc' := 43) at_41 rfl rfl ?_
  refine WP.iconst (pc' := 44) at_43 rfl (z := 1) rfl ?_
  refine WP.iand (pc' := 45) at_44 rfl ?_
  refine WP.ifc_eq (pc1 := 62) (pc2 := 48) at_45 (by decide) (by decide) rfl ?_ ?_
  · intro hc45
    refine WP.callS (argsL := []) (rest := []) (wd := 0) (cl' := 0) (sl' := 0) (pc' := 65) at_62 rfl (wd60 hw) (wd61 hw) (wd12 hw) (wd62 hw) (by decide) (m_emp hw h0 n0 aE (S_E.ext O0.2)) pd_5 rfl rfl rfl (Nat.le_of_eq rfl) (by decide) (by decide) rfl rfl (by decide) (by decide) ?_
    rintro v hh11 ⟨rfl, he11⟩
    rw [he11]
    refine WP.castS (st' := [(.ref aE)]) rfl ?_
    refine WP.astore (pc' := 67) at_65 rfl rfl (Ls' := #[.val (.int x0), .val (.int x1), .val (.int x2), .val (.int x3), .val (.int x4), .val (.int x5), .val (.int z1), .val (.int z3), .val (.int z5), .val (.int z7), .val (.int z9), .val (.ref aE), .unset, .unset]) rfl ?_
    refine WP.newO (cl' := 1) (sl' := 6) (pc' := 70) at_67 rfl (wd29 hw) (wd30 hw) (wd31 hw) rfl rfl (by decide) (by decide) ?_
    intro h12 b12 g12 E12 A12 D12
    have ge13 : n0 ≤ b12 := by rw [g12]; exact Z0
    have ne14 : aC ≠ b12 := by rw [g12]; exact Nat.ne_of_lt A_C.lt
    have ne15 : aS ≠ b12 := by rw [g12]; exact Nat.ne_of_lt G_field.lt
    have V16 := A_C.ext E12
    have F17 := G_field.ext E12
    have F18 := G_component.ext E12
    have F19 := G_repetition.ext E12
    have F20 := G_escape.ext E12
    have F21 := G_subcomponent.ext E12
    have O22 := O0.ext E12
    have Z23 : n0 ≤ h12.size := Nat.le_trans Z0 E12.1
    have F24 : Fld Z h12 b12 "com/example/labwire/labwire/hl7/Delimiters" "field" "C" (.int (0 : Int32)) := D12 (Or.inr (wd42 hw)) (ty := .char) (by decide)
    have F25 : Fld Z h12 b12 "com/example/labwire/labwire/hl7/Delimiters" "component" "C" (.int (0 : Int32)) := D12 (Or.inr (wd44 hw)) (ty := .char) (by decide)
    have F26 : Fld Z h12 b12 "com/example/labwire/labwire/hl7/Delimiters" "repetition" "C" (.int (0 : Int32)) := D12 (Or.inr (wd46 hw)) (ty := .char) (by decide)
    have F27 : Fld Z h12 b12 "com/example/labwire/labwire/hl7/Delimiters" "escape" "C" (.int (0 : Int32)) := D12 (Or.inr (wd48 hw)) (ty := .char) (by decide)
    have F28 : Fld Z h12 b12 "com/example/labwire/labwire/hl7/Delimiters" "subcomponent" "C" (.int (0 : Int32)) := D12 (Or.inr (wd50 hw)) (ty := .char) (by decide)
    have F29 : Fld Z h12 b12 "com/example/labwire/labwire/hl7/Delimiters" "truncation" "Ljava/util/Optional;" .null := D12 (Or.inr (wd52 hw)) (ty := (.object "java/util/Optional")) (by decide)
    refine WP.dup (pc' := 71) at_70 rfl rfl ?_
    refine WP.iload (pc' := 73) at_71 rfl rfl ?_
    refine WP.iload (pc' := 75) at_73 rfl rfl ?_
    refine WP.iload (pc' := 77) at_75 rfl rfl ?_
    refine WP.iload (pc' := 79) at_77 rfl rfl ?_
    refine WP.iload (pc' := 81) at_79 rfl rfl ?_
    refine WP.aload (pc' := 83) at_81 rfl rfl rfl ?_
    refine WP.callI (a := b12) (argsL := [(.int z1), (.int z3), (.int z5), (.int z7), (.int z9), (.ref aE)]) (rest := [(.ref b12)]) (wd := 1) (cl' := 1) (sl' := 6) (pc' := 86) at_83 rfl rfl (wd32 hw) (wd33 hw) (wd31 hw) (wd34 hw) (by decide) (m_di hw b12 z1 z3 z5 z7 z9 aE h12 n0 A12 ge13 F24 F25 F26 F27 F28 F29 h_z1 h_z3 h_z5 h_z7 h_z9) pd_6 rfl rfl rfl (Nat.le_of_eq rfl) (by decide) (by decide) rfl rfl (by decide) (by decide) ?_
    rintro v h30 ⟨rfl, K30, E30, F30_field, F30_component, F30_repetition, F30_escape, F30_subcomponent⟩
    have V31 := V16.keep K30 (ninS ne14 nin0)
    have F32 := F17.keep K30 (ninS ne15 nin0)
    have F33 := F18.keep K30 (ninS ne15 nin0)
    have F34 := F19.keep K30 (ninS ne15 nin0)
    have F35 := F20.keep K30 (ninS ne15 nin0)
    have F36 := F21.keep K30 (ninS ne15 nin0)
    have E37 := A12.keep K30
    have O38 := O22.keep K30 (allS ge13 all0)
    have Z39 : n0 ≤ h30.size := Nat.le_trans Z23 K30.1
    refine WP.castS (st' := [(.ref b12)]) rfl ?_
    refine WP.astore (pc' := 88) at_86 rfl rfl (Ls' := #[.val (.int x0), .val (.int x1), .val (.int x2), .val (.int x3), .val (.int x4), .val (.int x5), .val (.int z1), .val (.int z3), .val (.int z5), .val (.int z7), .val (.int z9), .val (.ref aE), .val (.ref b12), .unset]) rfl ?_
    refine WP.iload (pc' := 90) at_88 rfl rfl ?_
    refine WP.bipush (pc' := 92) at_90 rfl (z := 124) rfl ?_
    refine WP.icmp_ne (pc1 := 127) (pc2 := 95) at_92 (by decide) (by decide) rfl ?_ ?_
    · intro hc92
      refine WP.iconst (pc' := 128) at_127 rfl (z := 0) rfl ?_
      refine WP.istore (pc' := 130) at_128 rfl (Ls' := #[.val (.int x0), .val (.int x1), .val (.int x2), .val (.int x3), .val (.int x4), .val (.int x5), .val (.int z1), .val (.int z3), .val (.int z5), .val (.int z7), .val (.int z9), .val (.ref aE), .val (.ref b12), .val (.int (0 : Int32))]) rfl ?_
      refine WP.aload (pc' := 132) at_130 rfl rfl rfl ?_
      refine WP.callV (a := b12) (K := "com/example/labwire/labwire/hl7/Delimiters") (argsL := []) (rest := []) (wd := 0) (cl' := 1) (sl' := 6) (pc' := 135) at_132 rfl (wd53 hw) (wd54 hw) (nfS (wd56 hw) rfl) (wd56 hw) (wd55 hw) (wd31 hw) (wd57 hw) (by decide) E30 (m_is hw b12 h30 n0 z1 z3 z5 z7 z9 F30_field F30_component F30_repetition F30_escape F30_subcomponent aS (S_S.ext O38.2) F32 F33 F34 F35 F36) pd_7 rfl rfl rfl (Nat.le_of_eq rfl) (by decide) (by decide) rfl rfl (by decide) (by decide) ?_
      rintro v hh40 ⟨rfl, he40⟩
      rw [he40]
      rw [show b2i (decide (z1 = 124 ∧ z3 = 94 ∧ z5 = 126 ∧ z7 = 92 ∧ z9 = 38)) = 0 from b2i_0.mpr (decide_eq_false fun z => hc92 z.1)]
      refine WP.castS (st' := [(.int (0 : Int32))]) rfl ?_
      refine WP.iload (pc' := 137) at_135 rfl rfl ?_
      have hc137 : (0 : Int32) = (0 : Int32) := by decide
      refine WP.icmp_ne (pc1 := 144) (pc2 := 140) at_137 (by decide) (by decide) rfl (fun k => absurd hc137 k) (fun _ => ?_)
      refine WP.iconst (pc' := 141) at_140 rfl (z := 1) rfl ?_
      refine WP.goto (pc' := 145) at_141 (by decide) (by decide) ?_
      refine WP.nret (t := .boolean) at_145 rfl (by simp) rfl (by decide) (by decide) rfl
    · intro hc92
      refine WP.iload (pc' := 97) at_95 rfl rfl ?_
      refine WP.bipush (pc' := 99) at_97 rfl (z := 94) rfl ?_
      refine WP.icmp_ne (pc1 := 127) (pc2 := 102) at_99 (by decide) (by decide) rfl ?_ ?_
      · intro hc99
        refine WP.iconst (pc' := 128) at_127 rfl (z := 0) rfl ?_
        refine WP.istore (pc' := 130) at_128 rfl (Ls' := #[.val (.int x0), .val (.int x1), .val (.int x2), .val (.int x3), .val (.int x4), .val (.int x5), .val (.int z1), .val (.int z3), .val (.int z5), .val (.int z7), .val (.int z9), .val (.ref aE), .val (.ref b12), .val (.int (0 : Int32))]) rfl ?_
        refine WP.aload (pc' := 132) at_130 rfl rfl rfl ?_
        refine WP.callV (a := b12) (K := "com/example/labwire/labwire/hl7/Delimiters") (argsL := []) (rest := []) (wd := 0) (cl' := 1) (sl' := 6) (pc' := 135) at_132 rfl (wd53 hw) (wd54 hw) (nfS (wd56 hw) rfl) (wd56 hw) (wd55 hw) (wd31 hw) (wd57 hw) (by decide) E30 (m_is hw b12 h30 n0 z1 z3 z5 z7 z9 F30_field F30_component F30_repetition F30_escape F30_subcomponent aS (S_S.ext O38.2) F32 F33 F34 F35 F36) pd_7 rfl rfl rfl (Nat.le_of_eq rfl) (by decide) (by decide) rfl rfl (by decide) (by decide) ?_
        rintro v hh41 ⟨rfl, he41⟩
        rw [he41]
        rw [show b2i (decide (z1 = 124 ∧ z3 = 94 ∧ z5 = 126 ∧ z7 = 92 ∧ z9 = 38)) = 0 from b2i_0.mpr (decide_eq_false fun z => hc99 z.2.1)]
        refine WP.castS (st' := [(.int (0 : Int32))]) rfl ?_
        refine WP.iload (pc' := 137) at_135 rfl rfl ?_
        have hc137 : (0 : Int32) = (0 : Int32) := by decide
        refine WP.icmp_ne (pc1 := 144) (pc2 := 140) at_137 (by decide) (by decide) rfl (fun k => absurd hc137 k) (fun _ => ?_)
        refine WP.iconst (pc' := 141) at_140 rfl (z := 1) rfl ?_
        refine WP.goto (pc' := 145) at_141 (by decide) (by decide) ?_
        refine WP.nret (t := .boolean) at_145 rfl (by simp) rfl (by decide) (by decide) rfl
      · intro hc99
        refine WP.iload (pc' := 104) at_102 rfl rfl ?_
        refine WP.bipush (pc' := 106) at_104 rfl (z := 126) rfl ?_
        refine WP.icmp_ne (pc1 := 127) (pc2 := 109) at_106 (by decide) (by decide) rfl ?_ ?_
        · intro hc106
          refine WP.iconst (pc' := 128) at_127 rfl (z := 0) rfl ?_
          refine WP.istore (pc' := 130) at_128 rfl (Ls' := #[.val (.int x0), .val (.int x1), .val (.int x2), .val (.int x3), .val (.int x4), .val (.int x5), .val (.int z1), .val (.int z3), .val (.int z5), .val (.int z7), .val (.int z9), .val (.ref aE), .val (.ref b12), .val (.int (0 : Int32))]) rfl ?_
          refine WP.aload (pc' := 132) at_130 rfl rfl rfl ?_
          refine WP.callV (a := b12) (K := "com/example/labwire/labwire/hl7/Delimiters") (argsL := []) (rest := []) (wd := 0) (cl' := 1) (sl' := 6) (pc' := 135) at_132 rfl (wd53 hw) (wd54 hw) (nfS (wd56 hw) rfl) (wd56 hw) (wd55 hw) (wd31 hw) (wd57 hw) (by decide) E30 (m_is hw b12 h30 n0 z1 z3 z5 z7 z9 F30_field F30_component F30_repetition F30_escape F30_subcomponent aS (S_S.ext O38.2) F32 F33 F34 F35 F36) pd_7 rfl rfl rfl (Nat.le_of_eq rfl) (by decide) (by decide) rfl rfl (by decide) (by decide) ?_
          rintro v hh42 ⟨rfl, he42⟩
          rw [he42]
          rw [show b2i (decide (z1 = 124 ∧ z3 = 94 ∧ z5 = 126 ∧ z7 = 92 ∧ z9 = 38)) = 0 from b2i_0.mpr (decide_eq_false fun z => hc106 z.2.2.1)]
          refine WP.castS (st' := [(.int (0 : Int32))]) rfl ?_
          refine WP.iload (pc' := 137) at_135 rfl rfl ?_
          have hc137 : (0 : Int32) = (0 : Int32) := by decide
          refine WP.icmp_ne (pc1 := 144) (pc2 := 140) at_137 (by decide) (by decide) rfl (fun k => absurd hc137 k) (fun _ => ?_)
          refine WP.iconst (pc' := 141) at_140 rfl (z := 1) rfl ?_
          refine WP.goto (pc' := 145) at_141 (by decide) (by decide) ?_
          refine WP.nret (t := .boolean) at_145 rfl (by simp) rfl (by decide) (by decide) rfl
        · intro hc106
          refine WP.iload (pc' := 111) at_109 rfl rfl ?_
          refine WP.bipush (pc' := 113) at_111 rfl (z := 92) rfl ?_
          refine WP.icmp_ne (pc1 := 127) (pc2 := 116) at_113 (by decide) (by decide) rfl ?_ ?_
          · intro hc113
            refine WP.iconst (pc' := 128) at_127 rfl (z := 0) rfl ?_
            refine WP.istore (pc' := 130) at_128 rfl (Ls' := #[.val (.int x0), .val (.int x1), .val (.int x2), .val (.int x3), .val (.int x4), .val (.int x5), .val (.int z1), .val (.int z3), .val (.int z5), .val (.int z7), .val (.int z9), .val (.ref aE), .val (.ref b12), .val (.int (0 : Int32))]) rfl ?_
            refine WP.aload (pc' := 132) at_130 rfl rfl rfl ?_
            refine WP.callV (a := b12) (K := "com/example/labwire/labwire/hl7/Delimiters") (argsL := []) (rest := []) (wd := 0) (cl' := 1) (sl' := 6) (pc' := 135) at_132 rfl (wd53 hw) (wd54 hw) (nfS (wd56 hw) rfl) (wd56 hw) (wd55 hw) (wd31 hw) (wd57 hw) (by decide) E30 (m_is hw b12 h30 n0 z1 z3 z5 z7 z9 F30_field F30_component F30_repetition F30_escape F30_subcomponent aS (S_S.ext O38.2) F32 F33 F34 F35 F36) pd_7 rfl rfl rfl (Nat.le_of_eq rfl) (by decide) (by decide) rfl rfl (by decide) (by decide) ?_
            rintro v hh43 ⟨rfl, he43⟩
            rw [he43]
            rw [show b2i (decide (z1 = 124 ∧ z3 = 94 ∧ z5 = 126 ∧ z7 = 92 ∧ z9 = 38)) = 0 from b2i_0.mpr (decide_eq_false fun z => hc113 z.2.2.2.1)]
            refine WP.castS (st' := [(.int (0 : Int32))]) rfl ?_
            refine WP.iload (pc' := 137) at_135 rfl rfl ?_
            have hc137 : (0 : Int32) = (0 : Int32) := by decide
            refine WP.icmp_ne (pc1 := 144) (pc2 := 140) at_137 (by decide) (by decide) rfl (fun k => absurd hc137 k) (fun _ => ?_)
            refine WP.iconst (pc' := 141) at_140 rfl (z := 1) rfl ?_
            refine WP.goto (pc' := 145) at_141 (by decide) (by decide) ?_
            refine WP.nret (t := .boolean) at_145 rfl (by simp) rfl (by decide) (by decide) rfl
          · intro hc113
            refine WP.iload (pc' := 118) at_116 rfl rfl ?_
            refine WP.bipush (pc' := 120) at_118 rfl (z := 38) rfl ?_
            refine WP.icmp_ne (pc1 := 127) (pc2 := 123) at_120 (by decide) (by decide) rfl ?_ ?_
            · intro hc120
              refine WP.iconst (pc' := 128) at_127 rfl (z := 0) rfl ?_
              refine WP.istore (pc' := 130) at_128 rfl (Ls' := #[.val (.int x0), .val (.int x1), .val (.int x2), .val (.int x3), .val (.int x4), .val (.int x5), .val (.int z1), .val (.int z3), .val (.int z5), .val (.int z7), .val (.int z9), .val (.ref aE), .val (.ref b12), .val (.int (0 : Int32))]) rfl ?_
              refine WP.aload (pc' := 132) at_130 rfl rfl rfl ?_
              refine WP.callV (a := b12) (K := "com/example/labwire/labwire/hl7/Delimiters") (argsL := []) (rest := []) (wd := 0) (cl' := 1) (sl' := 6) (pc' := 135) at_132 rfl (wd53 hw) (wd54 hw) (nfS (wd56 hw) rfl) (wd56 hw) (wd55 hw) (wd31 hw) (wd57 hw) (by decide) E30 (m_is hw b12 h30 n0 z1 z3 z5 z7 z9 F30_field F30_component F30_repetition F30_escape F30_subcomponent aS (S_S.ext O38.2) F32 F33 F34 F35 F36) pd_7 rfl rfl rfl (Nat.le_of_eq rfl) (by decide) (by decide) rfl rfl (by decide) (by decide) ?_
              rintro v hh44 ⟨rfl, he44⟩
              rw [he44]
              rw [show b2i (decide (z1 = 124 ∧ z3 = 94 ∧ z5 = 126 ∧ z7 = 92 ∧ z9 = 38)) = 0 from b2i_0.mpr (decide_eq_false fun z => hc120 z.2.2.2.2)]
              refine WP.castS (st' := [(.int (0 : Int32))]) rfl ?_
              refine WP.iload (pc' := 137) at_135 rfl rfl ?_
              have hc137 : (0 : Int32) = (0 : Int32) := by decide
              refine WP.icmp_ne (pc1 := 144) (pc2 := 140) at_137 (by decide) (by decide) rfl (fun k => absurd hc137 k) (fun _ => ?_)
              refine WP.iconst (pc' := 141) at_140 rfl (z := 1) rfl ?_
              refine WP.goto (pc' := 145) at_141 (by decide) (by decide) ?_
              refine WP.nret (t := .boolean) at_145 rfl (by simp) rfl (by decide) (by decide) rfl
            · intro hc120
              refine WP.iconst (pc' := 124) at_123 rfl (z := 1) rfl ?_
              refine WP.goto (pc' := 128) at_124 (by decide) (by decide) ?_
              refine WP.istore (pc' := 130) at_128 rfl (Ls' := #[.val (.int x0), .val (.int x1), .val (.int x2), .val (.int x3), .val (.int x4), .val (.int x5), .val (.int z1), .val (.int z3), .val (.int z5), .val (.int z7), .val (.int z9), .val (.ref aE), .val (.ref b12), .val (.int (1 : Int32))]) rfl ?_
              refine WP.aload (pc' := 132) at_130 rfl rfl rfl ?_
              refine WP.callV (a := b12) (K := "com/example/labwire/labwire/hl7/Delimiters") (argsL := []) (rest := []) (wd := 0) (cl' := 1) (sl' := 6) (pc' := 135) at_132 rfl (wd53 hw) (wd54 hw) (nfS (wd56 hw) rfl) (wd56 hw) (wd55 hw) (wd31 hw) (wd57 hw) (by decide) E30 (m_is hw b12 h30 n0 z1 z3 z5 z7 z9 F30_field F30_component F30_repetition F30_escape F30_subcomponent aS (S_S.ext O38.2) F32 F33 F34 F35 F36) pd_7 rfl rfl rfl (Nat.le_of_eq rfl) (by decide) (by decide) rfl rfl (by decide) (by decide) ?_
              rintro v hh45 ⟨rfl, he45⟩
              rw [he45]
              rw [show b2i (decide (z1 = 124 ∧ z3 = 94 ∧ z5 = 126 ∧ z7 = 92 ∧ z9 = 38)) = 1 from b2i_1.mpr (decide_eq_true ⟨hc92, hc99, hc106, hc113, hc120⟩)]
              refine WP.castS (st' := [(.int (1 : Int32))]) rfl ?_
              refine WP.iload (pc' := 137) at_135 rfl rfl ?_
              have hc137 : (1 : Int32) = (1 : Int32) := by decide
              refine WP.icmp_ne (pc1 := 144) (pc2 := 140) at_137 (by decide) (by decide) rfl (fun k => absurd hc137 k) (fun _ => ?_)
              refine WP.iconst (pc' := 141) at_140 rfl (z := 1) rfl ?_
              refine WP.goto (pc' := 145) at_141 (by decide) (by decide) ?_
              refine WP.nret (t := .boolean) at_145 rfl (by simp) rfl (by decide) (by decide) rfl
  · intro hc45
    refine WP.iload (pc' := 50) at_48 rfl rfl ?_
    refine WP.iconst (pc' := 51) at_50 rfl (z := 1) rfl ?_
    refine WP.iushr (pc' := 52) at_51 rfl ?_
    refine WP.i2c (pc' := 53) at_52 rfl ?_
    refine WP.callS (argsL := [(.int (((x5.toUInt32 >>> ((1 : Int32) &&& 31).toUInt32).toInt32).toUInt32.toUInt16.toUInt32.toInt32))]) (rest := []) (wd := 0) (cl' := 1) (sl' := 1) (pc' := 56) at_53 rfl (wd4 hw) (wd5 hw) (wd6 hw) (wd7 hw) (by decide) (m_val hw (((x5.toUInt32 >>> ((1 : Int32) &&& 31).toUInt32).toInt32).toUInt32.toUInt16.toUInt32.toInt32) h0 n0 Z0 (c_i2c _).2.1 aC fC (S_C.ext O0.2) A_C hfC) pd_8 rfl rfl rfl (Nat.le_of_eq rfl) (by decide) (by decide) rfl rfl (by decide) (by decide) ?_
    rintro v h46 ⟨y46, rfl, K46⟩
    have V47 := A_C.keep K46 nin0
    have F48 := G_field.keep K46 nin0
    have F49 := G_component.keep K46 nin0
    have F50 := G_repetition.keep K46 nin0
    have F51 := G_escape.keep K46 nin0
    have F52 := G_subcomponent.keep K46 nin0
    have O53 := O0.keep K46 all0
    have Z54 : n0 ≤ h46.size := Nat.le_trans Z0 K46.1
    refine WP.castS (st' := [(.ref y46)]) rfl ?_
    refine WP.callS (argsL := [(.ref y46)]) (rest := []) (wd := 0) (cl' := 2) (sl' := 2) (pc' := 59) at_56 rfl (wd10 hw) (wd11 hw) (wd12 hw) (wd13 hw) (by decide) (m_of hw y46 h46 n0 Z54) pd_9 rfl rfl rfl (Nat.le_of_eq rfl) (by decide) (by decide) rfl rfl (by decide) (by decide) ?_
    rintro v h55 ⟨y55, rfl, K55⟩
    have V56 := V47.keep K55 nin0
    have F57 := F48.keep K55 nin0
    have F58 := F49.keep K55 nin0
    have F59 := F50.keep K55 nin0
    have F60 := F51.keep K55 nin0
    have F61 := F52.keep K55 nin0
    have O62 := O53.keep K55 all0
    have Z63 : n0 ≤ h55.size := Nat.le_trans Z54 K55.1
    refine WP.castS (st' := [(.ref y55)]) rfl ?_
    refine WP.goto (pc' := 65) at_59 (by decide) (by decide) ?_
    refine WP.astore (pc' := 67) at_65 rfl rfl (Ls' := #[.val (.int x0), .val (.int x1), .val (.int x2), .val (.int x3), .val (.int x4), .val (.int x5), .val (.int z1), .val (.int z3), .val (.int z5), .val (.int z7), .val (.int z9), .val (.ref y55), .unset, .unset]) rfl ?_
    refine WP.newO (cl' := 3) (sl' := 8) (pc' := 70) at_67 rfl (wd29 hw) (wd30 hw) (wd31 hw) rfl rfl (by decide) (by decide) ?_
    intro h64 b64 g64 E64 A64 D64
    have ge65 : n0 ≤ b64 := by rw [g64]; exact Z63
    have ne66 : aC ≠ b64 := by rw [g64]; exact Nat.ne_of_lt V56.lt
    have ne67 : aS ≠ b64 := by rw [g64]; exact Nat.ne_of_lt F57.lt
    have V68 := V56.ext E64
    have F69 := F57.ext E64
    have F70 := F58.ext E64
    have F71 := F59.ext E64
    have F72 := F60.ext E64
    have F73 := F61.ext E64
    have O74 := O62.ext E64
    have Z75 : n0 ≤ h64.size := Nat.le_trans Z63 E64.1
    have F76 : Fld Z h64 b64 "com/example/labwire/labwire/hl7/Delimiters" "field" "C" (.int (0 : Int32)) := D64 (Or.inr (wd42 hw)) (ty := .char) (by decide)
    have F77 : Fld Z h64 b64 "com/example/labwire/labwire/hl7/Delimiters" "component" "C" (.int (0 : Int32)) := D64 (Or.inr (wd44 hw)) (ty := .char) (by decide)
    have F78 : Fld Z h64 b64 "com/example/labwire/labwire/hl7/Delimiters" "repetition" "C" (.int (0 : Int32)) := D64 (Or.inr (wd46 hw)) (ty := .char) (by decide)
    have F79 : Fld Z h64 b64 "com/example/labwire/labwire/hl7/Delimiters" "escape" "C" (.int (0 : Int32)) := D64 (Or.inr (wd48 hw)) (ty := .char) (by decide)
    have F80 : Fld Z h64 b64 "com/example/labwire/labwire/hl7/Delimiters" "subcomponent" "C" (.int (0 : Int32)) := D64 (Or.inr (wd50 hw)) (ty := .char) (by decide)
    have F81 : Fld Z h64 b64 "com/example/labwire/labwire/hl7/Delimiters" "truncation" "Ljava/util/Optional;" .null := D64 (Or.inr (wd52 hw)) (ty := (.object "java/util/Optional")) (by decide)
    refine WP.dup (pc' := 71) at_70 rfl rfl ?_
    refine WP.iload (pc' := 73) at_71 rfl rfl ?_
    refine WP.iload (pc' := 75) at_73 rfl rfl ?_
    refine WP.iload (pc' := 77) at_75 rfl rfl ?_
    refine WP.iload (pc' := 79) at_77 rfl rfl ?_
    refine WP.iload (pc' := 81) at_79 rfl rfl ?_
    refine WP.aload (pc' := 83) at_81 rfl rfl rfl ?_
    refine WP.callI (a := b64) (argsL := [(.int z1), (.int z3), (.int z5), (.int z7), (.int z9), (.ref y55)]) (rest := [(.ref b64)]) (wd := 1) (cl' := 3) (sl' := 8) (pc' := 86) at_83 rfl rfl (wd32 hw) (wd33 hw) (wd31 hw) (wd34 hw) (by decide) (m_di hw b64 z1 z3 z5 z7 z9 y55 h64 n0 A64 ge65 F76 F77 F78 F79 F80 F81 h_z1 h_z3 h_z5 h_z7 h_z9) pd_6 rfl rfl rfl (Nat.le_of_eq rfl) (by decide) (by decide) rfl rfl (by decide) (by decide) ?_
    rintro v h82 ⟨rfl, K82, E82, F82_field, F82_component, F82_repetition, F82_escape, F82_subcomponent⟩
    have V83 := V68.keep K82 (ninS ne66 nin0)
    have F84 := F69.keep K82 (ninS ne67 nin0)
    have F85 := F70.keep K82 (ninS ne67 nin0)
    have F86 := F71.keep K82 (ninS ne67 nin0)
    have F87 := F72.keep K82 (ninS ne67 nin0)
    have F88 := F73.keep K82 (ninS ne67 nin0)
    have E89 := A64.keep K82
    have O90 := O74.keep K82 (allS ge65 all0)
    have Z91 : n0 ≤ h82.size := Nat.le_trans Z75 K82.1
    refine WP.castS (st' := [(.ref b64)]) rfl ?_
    refine WP.astore (pc' := 88) at_86 rfl rfl (Ls' := #[.val (.int x0), .val (.int x1), .val (.int x2), .val (.int x3), .val (.int x4), .val (.int x5), .val (.int z1), .val (.int z3), .val (.int z5), .val (.int z7), .val (.int z9), .val (.ref y55), .val (.ref b64), .unset]) rfl ?_
    refine WP.iload (pc' := 90) at_88 rfl rfl ?_
    refine WP.bipush (pc' := 92) at_90 rfl (z := 124) rfl ?_
    refine WP.icmp_ne (pc1 := 127) (pc2 := 95) at_92 (by decide) (by decide) rfl ?_ ?_
    · intro hc92
      refine WP.iconst (pc' := 128) at_127 rfl (z := 0) rfl ?_
      refine WP.istore (pc' := 130) at_128 rfl (Ls' := #[.val (.int x0), .val (.int x1), .val (.int x2), .val (.int x3), .val (.int x4), .val (.int x5), .val (.int z1), .val (.int z3), .val (.int z5), .val (.int z7), .val (.int z9), .val (.ref y55), .val (.ref b64), .val (.int (0 : Int32))]) rfl ?_
      refine WP.aload (pc' := 132) at_130 rfl rfl rfl ?_
      refine WP.callV (a := b64) (K := "com/example/labwire/labwire/hl7/Delimiters") (argsL := []) (rest := []) (wd := 0) (cl' := 3) (sl' := 8) (pc' := 135) at_132 rfl (wd53 hw) (wd54 hw) (nfS (wd56 hw) rfl) (wd56 hw) (wd55 hw) (wd31 hw) (wd57 hw) (by decide) E82 (m_is hw b64 h82 n0 z1 z3 z5 z7 z9 F82_field F82_component F82_repetition F82_escape F82_subcomponent aS (S_S.ext O90.2) F84 F85 F86 F87 F88) pd_7 rfl rfl rfl (Nat.le_of_eq rfl) (by decide) (by decide) rfl rfl (by decide) (by decide) ?_
      rintro v hh92 ⟨rfl, he92⟩
      rw [he92]
      rw [show b2i (decide (z1 = 124 ∧ z3 = 94 ∧ z5 = 126 ∧ z7 = 92 ∧ z9 = 38)) = 0 from b2i_0.mpr (decide_eq_false fun z => hc92 z.1)]
      refine WP.castS (st' := [(.int (0 : Int32))]) rfl ?_
      refine WP.iload (pc' := 137) at_135 rfl rfl ?_
      have hc137 : (0 : Int32) = (0 : Int32) := by decide
      refine WP.icmp_ne (pc1 := 144) (pc2 := 140) at_137 (by decide) (by decide) rfl (fun k => absurd hc137 k) (fun _ => ?_)
      refine WP.iconst (pc' := 141) at_140 rfl (z := 1) rfl ?_
      refine WP.goto (pc' := 145) at_141 (by decide) (by decide) ?_
      refine WP.nret (t := .boolean) at_145 rfl (by simp) rfl (by decide) (by decide) rfl
    · intro hc92
      refine WP.iload (pc' := 97) at_95 rfl rfl ?_
      refine WP.bipush (pc' := 99) at_97 rfl (z := 94) rfl ?_
      refine WP.icmp_ne (pc1 := 127) (pc2 := 102) at_99 (by decide) (by decide) rfl ?_ ?_
      · intro hc99
        refine WP.iconst (pc' := 128) at_127 rfl (z := 0) rfl ?_
        refine WP.istore (pc' := 130) at_128 rfl (Ls' := #[.val (.int x0), .val (.int x1), .val (.int x2), .val (.int x3), .val (.int x4), .val (.int x5), .val (.int z1), .val (.int z3), .val (.int z5), .val (.int z7), .val (.int z9), .val (.ref y55), .val (.ref b64), .val (.int (0 : Int32))]) rfl ?_
        refine WP.aload (pc' := 132) at_130 rfl rfl rfl ?_
        refine WP.callV (a := b64) (K := "com/example/labwire/labwire/hl7/Delimiters") (argsL := []) (rest := []) (wd := 0) (cl' := 3) (sl' := 8) (pc' := 135) at_132 rfl (wd53 hw) (wd54 hw) (nfS (wd56 hw) rfl) (wd56 hw) (wd55 hw) (wd31 hw) (wd57 hw) (by decide) E82 (m_is hw b64 h82 n0 z1 z3 z5 z7 z9 F82_field F82_component F82_repetition F82_escape F82_subcomponent aS (S_S.ext O90.2) F84 F85 F86 F87 F88) pd_7 rfl rfl rfl (Nat.le_of_eq rfl) (by decide) (by decide) rfl rfl (by decide) (by decide) ?_
        rintro v hh93 ⟨rfl, he93⟩
        rw [he93]
        rw [show b2i (decide (z1 = 124 ∧ z3 = 94 ∧ z5 = 126 ∧ z7 = 92 ∧ z9 = 38)) = 0 from b2i_0.mpr (decide_eq_false fun z => hc99 z.2.1)]
        refine WP.castS (st' := [(.int (0 : Int32))]) rfl ?_
        refine WP.iload (pc' := 137) at_135 rfl rfl ?_
        have hc137 : (0 : Int32) = (0 : Int32) := by decide
        refine WP.icmp_ne (pc1 := 144) (pc2 := 140) at_137 (by decide) (by decide) rfl (fun k => absurd hc137 k) (fun _ => ?_)
        refine WP.iconst (pc' := 141) at_140 rfl (z := 1) rfl ?_
        refine WP.goto (pc' := 145) at_141 (by decide) (by decide) ?_
        refine WP.nret (t := .boolean) at_145 rfl (by simp) rfl (by decide) (by decide) rfl
      · intro hc99
        refine WP.iload (pc' := 104) at_102 rfl rfl ?_
        refine WP.bipush (pc' := 106) at_104 rfl (z := 126) rfl ?_
        refine WP.icmp_ne (pc1 := 127) (pc2 := 109) at_106 (by decide) (by decide) rfl ?_ ?_
        · intro hc106
          refine WP.iconst (pc' := 128) at_127 rfl (z := 0) rfl ?_
          refine WP.istore (pc' := 130) at_128 rfl (Ls' := #[.val (.int x0), .val (.int x1), .val (.int x2), .val (.int x3), .val (.int x4), .val (.int x5), .val (.int z1), .val (.int z3), .val (.int z5), .val (.int z7), .val (.int z9), .val (.ref y55), .val (.ref b64), .val (.int (0 : Int32))]) rfl ?_
          refine WP.aload (pc' := 132) at_130 rfl rfl rfl ?_
          refine WP.callV (a := b64) (K := "com/example/labwire/labwire/hl7/Delimiters") (argsL := []) (rest := []) (wd := 0) (cl' := 3) (sl' := 8) (pc' := 135) at_132 rfl (wd53 hw) (wd54 hw) (nfS (wd56 hw) rfl) (wd56 hw) (wd55 hw) (wd31 hw) (wd57 hw) (by decide) E82 (m_is hw b64 h82 n0 z1 z3 z5 z7 z9 F82_field F82_component F82_repetition F82_escape F82_subcomponent aS (S_S.ext O90.2) F84 F85 F86 F87 F88) pd_7 rfl rfl rfl (Nat.le_of_eq rfl) (by decide) (by decide) rfl rfl (by decide) (by decide) ?_
          rintro v hh94 ⟨rfl, he94⟩
          rw [he94]
          rw [show b2i (decide (z1 = 124 ∧ z3 = 94 ∧ z5 = 126 ∧ z7 = 92 ∧ z9 = 38)) = 0 from b2i_0.mpr (decide_eq_false fun z => hc106 z.2.2.1)]
          refine WP.castS (st' := [(.int (0 : Int32))]) rfl ?_
          refine WP.iload (pc' := 137) at_135 rfl rfl ?_
          have hc137 : (0 : Int32) = (0 : Int32) := by decide
          refine WP.icmp_ne (pc1 := 144) (pc2 := 140) at_137 (by decide) (by decide) rfl (fun k => absurd hc137 k) (fun _ => ?_)
          refine WP.iconst (pc' := 141) at_140 rfl (z := 1) rfl ?_
          refine WP.goto (pc' := 145) at_141 (by decide) (by decide) ?_
          refine WP.nret (t := .boolean) at_145 rfl (by simp) rfl (by decide) (by decide) rfl
        · intro hc106
          refine WP.iload (pc' := 111) at_109 rfl rfl ?_
          refine WP.bipush (pc' := 113) at_111 rfl (z := 92) rfl ?_
          refine WP.icmp_ne (pc1 := 127) (pc2 := 116) at_113 (by decide) (by decide) rfl ?_ ?_
          · intro hc113
            refine WP.iconst (pc' := 128) at_127 rfl (z := 0) rfl ?_
            refine WP.istore (pc' := 130) at_128 rfl (Ls' := #[.val (.int x0), .val (.int x1), .val (.int x2), .val (.int x3), .val (.int x4), .val (.int x5), .val (.int z1), .val (.int z3), .val (.int z5), .val (.int z7), .val (.int z9), .val (.ref y55), .val (.ref b64), .val (.int (0 : Int32))]) rfl ?_
            refine WP.aload (pc' := 132) at_130 rfl rfl rfl ?_
            refine WP.callV (a := b64) (K := "com/example/labwire/labwire/hl7/Delimiters") (argsL := []) (rest := []) (wd := 0) (cl' := 3) (sl' := 8) (pc' := 135) at_132 rfl (wd53 hw) (wd54 hw) (nfS (wd56 hw) rfl) (wd56 hw) (wd55 hw) (wd31 hw) (wd57 hw) (by decide) E82 (m_is hw b64 h82 n0 z1 z3 z5 z7 z9 F82_field F82_component F82_repetition F82_escape F82_subcomponent aS (S_S.ext O90.2) F84 F85 F86 F87 F88) pd_7 rfl rfl rfl (Nat.le_of_eq rfl) (by decide) (by decide) rfl rfl (by decide) (by decide) ?_
            rintro v hh95 ⟨rfl, he95⟩
            rw [he95]
            rw [show b2i (decide (z1 = 124 ∧ z3 = 94 ∧ z5 = 126 ∧ z7 = 92 ∧ z9 = 38)) = 0 from b2i_0.mpr (decide_eq_false fun z => hc113 z.2.2.2.1)]
            refine WP.castS (st' := [(.int (0 : Int32))]) rfl ?_
            refine WP.iload (pc' := 137) at_135 rfl rfl ?_
            have hc137 : (0 : Int32) = (0 : Int32) := by decide
            refine WP.icmp_ne (pc1 := 144) (pc2 := 140) at_137 (by decide) (by decide) rfl (fun k => absurd hc137 k) (fun _ => ?_)
            refine WP.iconst (pc' := 141) at_140 rfl (z := 1) rfl ?_
            refine WP.goto (pc' := 145) at_141 (by decide) (by decide) ?_
            refine WP.nret (t := .boolean) at_145 rfl (by simp) rfl (by decide) (by decide) rfl
          · intro hc113
            refine WP.iload (pc' := 118) at_116 rfl rfl ?_
            refine WP.bipush (pc' := 120) at_118 rfl (z := 38) rfl ?_
            refine WP.icmp_ne (pc1 := 127) (pc2 := 123) at_120 (by decide) (by decide) rfl ?_ ?_
            · intro hc120
              refine WP.iconst (pc' := 128) at_127 rfl (z := 0) rfl ?_
              refine WP.istore (pc' := 130) at_128 rfl (Ls' := #[.val (.int x0), .val (.int x1), .val (.int x2), .val (.int x3), .val (.int x4), .val (.int x5), .val (.int z1), .val (.int z3), .val (.int z5), .val (.int z7), .val (.int z9), .val (.ref y55), .val (.ref b64), .val (.int (0 : Int32))]) rfl ?_
              refine WP.aload (pc' := 132) at_130 rfl rfl rfl ?_
              refine WP.callV (a := b64) (K := "com/example/labwire/labwire/hl7/Delimiters") (argsL := []) (rest := []) (wd := 0) (cl' := 3) (sl' := 8) (pc' := 135) at_132 rfl (wd53 hw) (wd54 hw) (nfS (wd56 hw) rfl) (wd56 hw) (wd55 hw) (wd31 hw) (wd57 hw) (by decide) E82 (m_is hw b64 h82 n0 z1 z3 z5 z7 z9 F82_field F82_component F82_repetition F82_escape F82_subcomponent aS (S_S.ext O90.2) F84 F85 F86 F87 F88) pd_7 rfl rfl rfl (Nat.le_of_eq rfl) (by decide) (by decide) rfl rfl (by decide) (by decide) ?_
              rintro v hh96 ⟨rfl, he96⟩
              rw [he96]
              rw [show b2i (decide (z1 = 124 ∧ z3 = 94 ∧ z5 = 126 ∧ z7 = 92 ∧ z9 = 38)) = 0 from b2i_0.mpr (decide_eq_false fun z => hc120 z.2.2.2.2)]
              refine WP.castS (st' := [(.int (0 : Int32))]) rfl ?_
              refine WP.iload (pc' := 137) at_135 rfl rfl ?_
              have hc137 : (0 : Int32) = (0 : Int32) := by decide
              refine WP.icmp_ne (pc1 := 144) (pc2 := 140) at_137 (by decide) (by decide) rfl (fun k => absurd hc137 k) (fun _ => ?_)
              refine WP.iconst (pc' := 141) at_140 rfl (z := 1) rfl ?_
              refine WP.goto (pc' := 145) at_141 (by decide) (by decide) ?_
              refine WP.nret (t := .boolean) at_145 rfl (by simp) rfl (by decide) (by decide) rfl
            · intro hc120
              refine WP.iconst (pc' := 124) at_123 rfl (z := 1) rfl ?_
              refine WP.goto (pc' := 128) at_124 (by decide) (by decide) ?_
              refine WP.istore (pc' := 130) at_128 rfl (Ls' := #[.val (.int x0), .val (.int x1), .val (.int x2), .val (.int x3), .val (.int x4), .val (.int x5), .val (.int z1), .val (.int z3), .val (.int z5), .val (.int z7), .val (.int z9), .val (.ref y55), .val (.ref b64), .val (.int (1 : Int32))]) rfl ?_
              refine WP.aload (pc' := 132) at_130 rfl rfl rfl ?_
              refine WP.callV (a := b64) (K := "com/example/labwire/labwire/hl7/Delimiters") (argsL := []) (rest := []) (wd := 0) (cl' := 3) (sl' := 8) (pc' := 135) at_132 rfl (wd53 hw) (wd54 hw) (nfS (wd56 hw) rfl) (wd56 hw) (wd55 hw) (wd31 hw) (wd57 hw) (by decide) E82 (m_is hw b64 h82 n0 z1 z3 z5 z7 z9 F82_field F82_component F82_repetition F82_escape F82_subcomponent aS (S_S.ext O90.2) F84 F85 F86 F87 F88) pd_7 rfl rfl rfl (Nat.le_of_eq rfl) (by decide) (by decide) rfl rfl (by decide) (by decide) ?_
              rintro v hh97 ⟨rfl, he97⟩
              rw [he97]
              rw [show b2i (decide (z1 = 124 ∧ z3 = 94 ∧ z5 = 126 ∧ z7 = 92 ∧ z9 = 38)) = 1 from b2i_1.mpr (decide_eq_true ⟨hc92, hc99, hc106, hc113, hc120⟩)]
              refine WP.castS (st' := [(.int (1 : Int32))]) rfl ?_
              refine WP.iload (pc' := 137) at_135 rfl rfl ?_
              have hc137 : (1 : Int32) = (1 : Int32) := by decide
              refine WP.icmp_ne (pc1 := 144) (pc2 := 140) at_137 (by decide) (by decide) rfl (fun k => absurd hc137 k) (fun _ => ?_)
              refine WP.iconst (pc' := 141) at_140 rfl (z := 1) rfl ?_
              refine WP.goto (pc' := 145) at_141 (by decide) (by decide) ?_
              refine WP.nret (t := .boolean) at_145 rfl (by simp) rfl (by decide) (by decide) rfl
theorem wd59 {Z : State} {a0 : Array Value} (hw : ∀ d ∈ tables_1, d.before a0 Z = true) : (Jvm.Cond.laysStatic "com/example/labwire/labwire/hl7/Delimiters" "STANDARD" "Lcom/example/labwire/labwire/hl7/Delimiters;").before a0 Z = true := hw _ (List.mem_of_getElem? (i := 59) rfl)
set_option maxRecDepth 65536 in
set_option maxHeartbeats 40000000 in
theorem comes_1 {Post : Tables → Env → Array Value → State → Outcome → State → Prop} (hpost : ∀ tb e args s v u, (limb_1_1.after args s (.returned v) u = true ∧ limb_1_2.after args s (.returned v) u = true ∧ True) → FrameEnd s (.returned v) u (Jvm.fieldLocs frame_1_writes args s ++ Jvm.arrayLocs frame_1_arrays args s ++ Jvm.staticLocs frame_1_statics s) 16 128 → Post tb e args s (.returned v) u) :
    ArmFor flags0 classFile x code maxLocals ret World_1 tables_1 room_1 Calls_1 rest_1 Pre_1 Post := by
  intro l hfl _ _ p e ha hc hk s m args below hf hA hF happ hP
  obtain ⟨hcalls, hrest, hpre⟩ := hP
  obtain ⟨-, -, -, hnamed, -, -, -, hat⟩ := (Spec.applies_iff hf).mp happ
  obtain ⟨hg, hn⟩ := and_e (Cond.before_iff.mp (show (Jvm.Cond.and given_1 narrow_1).before args s = true from hpre))
  obtain ⟨g1, g2⟩ := and_e hg
  obtain ⟨g3, g4⟩ := and_e g2
  obtain ⟨g5, g6⟩ := and_e g4
  obtain ⟨g7, g8⟩ := and_e g6
  obtain ⟨g9, g10⟩ := and_e g8
  obtain ⟨g11, g12⟩ := and_e g10
  obtain ⟨w0, w1, w2, w3, w4, w5, rfl⟩ : ∃ w0 w1 w2 w3 w4 w5 : Value, args = #[w0, w1, w2, w3, w4, w5] := by
    have hs : args.size = 6 := by simpa [Cond.value, given_1] using g1
    obtain ⟨L⟩ := args
    match L, hs with
    | [w0, w1, w2, w3, w4, w5], _ => exact ⟨w0, w1, w2, w3, w4, w5, rfl⟩
  have hw := fun d (hd : d ∈ tables_1) => atoms_spec (ws := Jvm.Cond.code x code maxLocals ret :: tables_1) hat d (List.mem_cons_of_mem _ hd)
  have hfit : Fit s := fun {y c} hc i hi => by
    obtain ⟨ha, rfl⟩ := Array.getElem?_eq_some_iff.mp hc
    have q := List.all_eq_true.mp ((Array.all_eq_true_iff_forall_mem.mp hF) _ (Array.getElem_mem ha)) i (List.mem_range.mpr hi)
    simpa [Array.getElem?_eq_getElem hi] using q
  obtain ⟨hsets, hown0⟩ := atoms_of _ (rest_1_c_eq ▸ (show rest_1_c.before _ s = true from hrest))
  have hr0 := Cond.before_iff.mp hown0
  obtain ⟨i0, ei0⟩ := is_v g3
  obtain rfl : w0 = (.int i0) := Option.some.inj ei0
  obtain ⟨i1, ei1⟩ := is_v g5
  obtain rfl : w1 = (.int i1) := Option.some.inj ei1
  obtain ⟨i2, ei2⟩ := is_v g7
  obtain rfl : w2 = (.int i2) := Option.some.inj ei2
  obtain ⟨i3, ei3⟩ := is_v g9
  obtain rfl : w3 = (.int i3) := Option.some.inj ei3
  obtain ⟨i4, ei4⟩ := is_v g11
  obtain rfl : w4 = (.int i4) := Option.some.inj ei4
  obtain ⟨i5, ei5⟩ := is_v g12
  obtain rfl : w5 = (.int i5) := Option.some.inj ei5
  obtain ⟨k13, k14⟩ := and_e hn
  obtain ⟨k15, k16⟩ := and_e k14
  obtain ⟨k17, k18⟩ := and_e k16
  obtain ⟨k19, k20⟩ := and_e k18
  obtain ⟨k21, k22⟩ := and_e k20
  obtain ⟨a_STANDARD, ev_STANDARD, S_STANDARD, E_STANDARD⟩ := Sta.of_exa k13 (Or.inr ⟨(wd31 hw), (wd59 hw)⟩)
  have F_STANDARD_field := Fld.of_eq ev_STANDARD k15
  have F_STANDARD_component := Fld.of_eq ev_STANDARD k17
  have F_STANDARD_repetition := Fld.of_eq ev_STANDARD k19
  have F_STANDARD_escape := Fld.of_eq ev_STANDARD k21
  have F_STANDARD_subcomponent := Fld.of_eq ev_STANDARD k22
  obtain ⟨aC, fC, S_C, A_C, hfC⟩ := Arf.of_static (k := 128) (Cond.before_iff.mp (hsets _ (List.mem_of_getElem? (i := 2) rfl))) (Cond.before_iff.mp (hsets _ (List.mem_of_getElem? (i := 4) rfl))) (Or.inl (hsets _ (List.mem_of_getElem? (i := 1) rfl))) rfl (Cond.before_iff.mp (hsets _ (List.mem_of_getElem? (i := 5) rfl)))
  obtain ⟨aE, evE, S_E, -⟩ := Sta.of_exa (Cond.before_iff.mp (hsets _ (List.mem_of_getElem? (i := 8) rfl))) (Or.inl (hsets _ (List.mem_of_getElem? (i := 7) rfl)))
  obtain ⟨n, o, h1, h2, h3, _, L, rfl, ⟨rfl, N⟩, hq⟩ := rm0 (Z := s) hw i0 i1 i2 i3 i4 i5 s.heap s.heap.size (Nat.le_refl _) (Old.start s) a_STANDARD S_STANDARD F_STANDARD_field F_STANDARD_component F_STANDARD_repetition F_STANDARD_escape F_STANDARD_subcomponent aC fC S_C A_C hfC aE S_E l tables_1 p e ha hc hk s m _ below hf ((Spec.applies_iff_loose hf).mp happ).1 ⟨rfl, State.Warmed39.refl s, rfl⟩ trivial
  refine ⟨n, _, h1, h2, h3, hpost _ _ _ _ _ _ ⟨Cond.after_iff.mpr rfl, Cond.after_iff.mpr (eq_i res_at (Term.int_eval (1)) rfl), trivial⟩ ⟨hq.1, hq.2.1, (hq.2.2.sift fun y hy => Or.inr (N y hy)).mono (by decide) (by decide)⟩⟩
theorem main_1_1 : Claimed_1_1 := comes_1 fun _ _ _ _ _ _ h hF => ⟨h.1, hF⟩
theorem main_1_2 : Claimed_1_2 := comes_1 fun _ _ _ _ _ _ h hF => ⟨h.2.1, hF⟩
end Jvm.Pilot.@@N@@
namespace Jvm.Pilot.@@N@@
open Jvm Jvm.ClassFile Sem Op Lib Jvm.Free Jvm.Stand Jvm.Pilot.@@N@@.Jvm.D
/-! MADE BY PROGRAM (witnessworld.py) out of the Statement's table words and the real class files: 17 classes; the members and pool entries that the words name. The judged class is class 1, her method 2. -/
namespace start1
open Jvm.ClassFile
def u (s : String) : CpInfo := .utf8 (stringToUtf16 s)
/-- a pool by its gaps: so many unusable entries, then the entry; so many at the end -/
def gap : Nat → List CpInfo → List CpInfo
  | 0, r => r
  | n + 1, r => .unusable :: gap n r
def poolList (es : List (Nat × CpInfo)) (last : Nat) : List CpInfo := es.foldr (fun e r => gap e.1 (e.2 :: r)) (gap last [])
def pool (es : List (Nat × CpInfo)) (last : Nat) : Array CpInfo := ⟨poolList es last⟩
def fileOf (pool : Array CpInfo) (this : Nat) (attrs : Array Attribute := #[]) (ms : Array MethodInfo := #[]) (fl : Nat := 33) (sup : Nat := 0) (ifs : Array Nat := #[]) (fds : Array FieldInfo := #[]) : ClassFile where
  minorVersion := 0
  majorVersion := 65
  constantPool := pool
  accessFlags := fl
  thisClass := this
  superClass := sup
  interfaces := ifs
  fields := fds
  methods := ms
  attributes := attrs
def plain (name : String) (sup : Option ClassId) : Class where
  name := name
  kind := .ordinary
  loader := none
  accessFlags := 33
  super := sup
  interfaces := #[]
  cf := none
  fields := #[]
  methods := #[]
  instanceTypes := #[]
  staticTypes := #[]
  resolved := #[]
  callSites := []
  init := .initialized
  statics := none
  mirror := none

def pool0 : Array CpInfo := pool [(5, u "<init>"), (0, u "()V"), (1, .class_ 10), (1, u "java/lang/Object")] 113

def k0c0 : Code := { maxStack := 0, maxLocals := 1, code := object_method_1_code, exceptionTable := #[], attributes := #[] }
def k0m0 : Method := { name := "<init>", desc := "()V", sig := { parameters := [], returnType := none }, accessFlags := 1, code := some k0c0 }
/-- java/lang/Object -/
def k0 : Class := { plain "java/lang/Object" none with
  accessFlags := 33
  interfaces := #[]
  cf := some (fileOf pool0 8 #[] #[{ accessFlags := 1, nameIndex := 5, descriptorIndex := 6, attributes := #[] }] 33 0 #[] #[])
  fields := #[]
  methods := #[k0m0]
  instanceTypes := #[]
  staticTypes := #[]
  resolved := Array.replicate 124 none
  statics := none }

def pool1 : Array CpInfo := pool [(2, .class_ 4), (1, u "java/lang/Object"), (0, u "<init>"), (0, u "()V"), (0, .methodref 8 9), (0, .class_ 10), (0, .nameAndType 11 12), (0, u "com/example/labwire/labwire/hl7/DelimitersIsStandardPinLaw"), (0, u "pick"), (0, u "(IC)C"), (0, .methodref 14 15), (0, .class_ 16), (0, .nameAndType 17 18), (0, u "java/lang/Character"), (0, u "valueOf"), (0, u "(C)Ljava/lang/Character;"), (0, .methodref 20 21), (0, .class_ 22), (0, .nameAndType 23 24), (0, u "java/util/Optional"), (0, u "of"), (0, u "(Ljava/lang/Object;)Ljava/util/Optional;"), (0, .methodref 20 26), (0, .nameAndType 27 28), (0, u "empty"), (0, u "()Ljava/util/Optional;"), (0, .class_ 30), (0, u "com/example/labwire/labwire/hl7/Delimiters"), (0, .methodref 29 32), (0, .nameAndType 5 33), (0, u "(CCCCCLjava/util/Optional;)V"), (0, .methodref 29 35), (0, .nameAndType 36 37), (0, u "isStandard"), (0, u "()Z"), (3, u "law"), (0, u "(IIIIII)Z")] 2

def k1m0 : Method := { name := "<init>", desc := "()V", sig := { parameters := [], returnType := none }, accessFlags := 1, code := none }
def k1c1 : Code := { maxStack := 2, maxLocals := 2, code := method_2_code, exceptionTable := #[], attributes := #[] }
def k1m1 : Method := { name := "pick", desc := "(IC)C", sig := { parameters := [.int, .char], returnType := some .char }, accessFlags := 10, code := some k1c1 }
def k1c2 : Code := { maxStack := 8, maxLocals := 14, code := code, exceptionTable := #[], attributes := #[] }
def k1m2 : Method := { name := "law", desc := "(IIIIII)Z", sig := { parameters := [.int, .int, .int, .int, .int, .int], returnType := some .boolean }, accessFlags := 9, code := some k1c2 }
/-- com/example/labwire/labwire/hl7/DelimitersIsStandardPinLaw -/
def k1 : Class := { plain "com/example/labwire/labwire/hl7/DelimitersIsStandardPinLaw" (some 0) with
  accessFlags := 49
  interfaces := #[]
  cf := some (fileOf pool1 8 #[] #[{ accessFlags := 1, nameIndex := 5, descriptorIndex := 6, attributes := #[] }, { accessFlags := 10, nameIndex := 11, descriptorIndex := 12, attributes := #[] }, { accessFlags := 9, nameIndex := 41, descriptorIndex := 42, attributes := #[] }] 49 2 #[] #[])
  fields := #[]
  methods := #[k1m0, k1m1, k1m2]
  instanceTypes := #[]
  staticTypes := #[]
  resolved := Array.replicate 45 none
  statics := none }

def pool2 : Array CpInfo := pool [(1, .class_ 2), (0, u "java/io/Serializable"), (0, .class_ 4), (0, u "java/lang/Object")] 2

/-- java/io/Serializable -/
def k2 : Class := { plain "java/io/Serializable" (some 0) with
  accessFlags := 1537
  interfaces := #[]
  cf := some (fileOf pool2 1 #[] #[] 1537 3 #[] #[])
  fields := #[]
  methods := #[]
  instanceTypes := #[]
  staticTypes := #[]
  resolved := Array.replicate 7 none
  statics := none }

def pool3 : Array CpInfo := pool [(1, .class_ 2), (0, u "java/lang/Comparable"), (0, .class_ 4), (0, u "java/lang/Object")] 7

/-- java/lang/Comparable -/
def k3 : Class := { plain "java/lang/Comparable" (some 0) with
  accessFlags := 1537
  interfaces := #[]
  cf := some (fileOf pool3 1 #[] #[] 1537 3 #[] #[])
  fields := #[]
  methods := #[]
  instanceTypes := #[]
  staticTypes := #[]
  resolved := Array.replicate 12 none
  statics := none }

def pool4 : Array CpInfo := pool [(1, .class_ 2), (0, u "java/lang/constant/Constable"), (0, .class_ 4), (0, u "java/lang/Object")] 6

/-- java/lang/constant/Constable -/
def k4 : Class := { plain "java/lang/constant/Constable" (some 0) with
  accessFlags := 1537
  interfaces := #[]
  cf := some (fileOf pool4 1 #[] #[] 1537 3 #[] #[])
  fields := #[]
  methods := #[]
  instanceTypes := #[]
  staticTypes := #[]
  resolved := Array.replicate 11 none
  statics := none }

def pool5 : Array CpInfo := pool [(1, .class_ 2), (0, u "java/lang/Character"), (16, .fieldref 1 20), (0, .nameAndType 21 22), (0, u "value"), (0, u "C"), (4, u "valueOf"), (13, .methodref 42 43), (0, .class_ 44), (0, .nameAndType 45 46), (0, u "java/lang/Object"), (0, u "<init>"), (0, u "()V"), (0, .fieldref 48 49), (0, .class_ 50), (0, .nameAndType 51 52), (0, u "java/lang/Character$CharacterCache"), (0, u "cache"), (0, u "[Ljava/lang/Character;"), (0, .methodref 1 54), (0, .nameAndType 45 55), (0, u "(C)V"), (228, u "$assertionsDisabled"), (0, u "Z"), (21, .class_ 309), (1, u "java/lang/Character$UnicodeBlock"), (73, u "TYPE"), (0, u "Ljava/lang/Class;"), (0, .class_ 386), (0, u "java/io/Serializable"), (0, .class_ 388), (0, u "java/lang/Comparable"), (0, .class_ 390), (0, u "java/lang/constant/Constable"), (0, u "MIN_RADIX"), (0, u "I"), (2, u "MAX_RADIX"), (1, u "MIN_VALUE"), (1, u "MAX_VALUE"), (3, u "UNASSIGNED"), (0, u "B"), (0, u "UPPERCASE_LETTER"), (1, u "LOWERCASE_LETTER"), (0, u "TITLECASE_LETTER"), (1, u "MODIFIER_LETTER"), (1, u "OTHER_LETTER"), (1, u "NON_SPACING_MARK"), (1, u "ENCLOSING_MARK"), (1, u "COMBINING_SPACING_MARK"), (1, u "DECIMAL_DIGIT_NUMBER"), (1, u "LETTER_NUMBER"), (1, u "OTHER_NUMBER"), (1, u "SPACE_SEPARATOR"), (1, u "LINE_SEPARATOR"), (1, u "PARAGRAPH_SEPARATOR"), (1, u "CONTROL"), (1, u "FORMAT"), (1, u "PRIVATE_USE"), (1, u "SURROGATE"), (1, u "DASH_PUNCTUATION"), (1, u "START_PUNCTUATION"), (1, u "END_PUNCTUATION"), (1, u "CONNECTOR_PUNCTUATION"), (1, u "OTHER_PUNCTUATION"), (1, u "MATH_SYMBOL"), (1, u "CURRENCY_SYMBOL"), (1, u "MODIFIER_SYMBOL"), (1, u "OTHER_SYMBOL"), (1, u "INITIAL_QUOTE_PUNCTUATION"), (1, u "FINAL_QUOTE_PUNCTUATION"), (1, u "ERROR"), (1, u "DIRECTIONALITY_UNDEFINED"), (0, u "DIRECTIONALITY_LEFT_TO_RIGHT"), (0, u "DIRECTIONALITY_RIGHT_TO_LEFT"), (0, u "DIRECTIONALITY_RIGHT_TO_LEFT_ARABIC"), (0, u "DIRECTIONALITY_EUROPEAN_NUMBER"), (0, u "DIRECTIONALITY_EUROPEAN_NUMBER_SEPARATOR"), (0, u "DIRECTIONALITY_EUROPEAN_NUMBER_TERMINATOR"), (0, u "DIRECTIONALITY_ARABIC_NUMBER"), (0, u "DIRECTIONALITY_COMMON_NUMBER_SEPARATOR"), (0, u "DIRECTIONALITY_NONSPACING_MARK"), (0, u "DIRECTIONALITY_BOUNDARY_NEUTRAL"), (0, u "DIRECTIONALITY_PARAGRAPH_SEPARATOR"), (0, u "DIRECTIONALITY_SEGMENT_SEPARATOR"), (0, u "DIRECTIONALITY_WHITESPACE"), (0, u "DIRECTIONALITY_OTHER_NEUTRALS"), (0, u "DIRECTIONALITY_LEFT_TO_RIGHT_EMBEDDING"), (0, u "DIRECTIONALITY_LEFT_TO_RIGHT_OVERRIDE"), (0, u "DIRECTIONALITY_RIGHT_TO_LEFT_EMBEDDING"), (0, u "DIRECTIONALITY_RIGHT_TO_LEFT_OVERRIDE"), (1, u "DIRECTIONALITY_POP_DIRECTIONAL_FORMAT"), (0, u "DIRECTIONALITY_LEFT_TO_RIGHT_ISOLATE"), (0, u "DIRECTIONALITY_RIGHT_TO_LEFT_ISOLATE"), (0, u "DIRECTIONALITY_FIRST_STRONG_ISOLATE"), (0, u "DIRECTIONALITY_POP_DIRECTIONAL_ISOLATE"), (0, u "MIN_HIGH_SURROGATE"), (0, u "MAX_HIGH_SURROGATE"), (1, u "MIN_LOW_SURROGATE"), (0, u "MAX_LOW_SURROGATE"), (1, u "MIN_SURROGATE"), (0, u "MAX_SURROGATE"), (0, u "MIN_SUPPLEMENTARY_CODE_POINT"), (0, u "MIN_CODE_POINT"), (0, u "MAX_CODE_POINT"), (1, u "serialVersionUID"), (0, u "J"), (2, u "SIZE"), (0, u "BYTES"), (14, u "(C)Ljava/lang/Character;"), (73, .class_ 596), (0, u "java/lang/Character$UnicodeScript"), (0, .class_ 598), (0, u "java/lang/Character$Subset")] 5

def k5c0 : Code := { maxStack := 2, maxLocals := 2, code := jdk_89_method_2_code, exceptionTable := #[], attributes := #[] }
def k5m0 : Method := { name := "<init>", desc := "(C)V", sig := { parameters := [.char], returnType := none }, accessFlags := 1, code := some k5c0 }
def k5c1 : Code := { maxStack := 3, maxLocals := 1, code := jdk_89_method_3_code, exceptionTable := #[], attributes := #[] }
def k5m1 : Method := { name := "valueOf", desc := "(C)Ljava/lang/Character;", sig := { parameters := [.char], returnType := some (.object "java/lang/Character") }, accessFlags := 9, code := some k5c1 }
/-- java/lang/Character -/
def k5 : Class := { plain "java/lang/Character" (some 0) with
  accessFlags := 49
  interfaces := #[2, 3, 4]
  cf := some (fileOf pool5 1 #[.nestMembers #[48, 595, 307, 597]] #[{ accessFlags := 1, nameIndex := 45, descriptorIndex := 55, attributes := #[] }, { accessFlags := 9, nameIndex := 27, descriptorIndex := 521, attributes := #[] }] 49 42 #[385, 387, 389] #[{ accessFlags := 25, nameIndex := 391, descriptorIndex := 392, attributes := #[] }, { accessFlags := 25, nameIndex := 395, descriptorIndex := 392, attributes := #[] }, { accessFlags := 25, nameIndex := 397, descriptorIndex := 22, attributes := #[] }, { accessFlags := 25, nameIndex := 399, descriptorIndex := 22, attributes := #[] }, { accessFlags := 25, nameIndex := 383, descriptorIndex := 384, attributes := #[] }, { accessFlags := 25, nameIndex := 403, descriptorIndex := 404, attributes := #[] }, { accessFlags := 25, nameIndex := 405, descriptorIndex := 404, attributes := #[] }, { accessFlags := 25, nameIndex := 407, descriptorIndex := 404, attributes := #[] }, { accessFlags := 25, nameIndex := 408, descriptorIndex := 404, attributes := #[] }, { accessFlags := 25, nameIndex := 410, descriptorIndex := 404, attributes := #[] }, { accessFlags := 25, nameIndex := 412, descriptorIndex := 404, attributes := #[] }, { accessFlags := 25, nameIndex := 414, descriptorIndex := 404, attributes := #[] }, { accessFlags := 25, nameIndex := 416, descriptorIndex := 404, attributes := #[] }, { accessFlags := 25, nameIndex := 418, descriptorIndex := 404, attributes := #[] }, { accessFlags := 25, nameIndex := 420, descriptorIndex := 404, attributes := #[] }, { accessFlags := 25, nameIndex := 422, descriptorIndex := 404, attributes := #[] }, { accessFlags := 25, nameIndex := 424, descriptorIndex := 404, attributes := #[] }, { accessFlags := 25, nameIndex := 426, descriptorIndex := 404, attributes := #[] }, { accessFlags := 25, nameIndex := 428, descriptorIndex := 404, attributes := #[] }, { accessFlags := 25, nameIndex := 430, descriptorIndex := 404, attributes := #[] }, { accessFlags := 25, nameIndex := 432, descriptorIndex := 404, attributes := #[] }, { accessFlags := 25, nameIndex := 434, descriptorIndex := 404, attributes := #[] }, { accessFlags := 25, nameIndex := 436, descriptorIndex := 404, attributes := #[] }, { accessFlags := 25, nameIndex := 438, descriptorIndex := 404, attributes := #[] }, { accessFlags := 25, nameIndex := 440, descriptorIndex := 404, attributes := #[] }, { accessFlags := 25, nameIndex := 442, descriptorIndex := 404, attributes := #[] }, { accessFlags := 25, nameIndex := 444, descriptorIndex := 404, attributes := #[] }, { accessFlags := 25, nameIndex := 446, descriptorIndex := 404, attributes := #[] }, { accessFlags := 25, nameIndex := 448, descriptorIndex := 404, attributes := #[] }, { accessFlags := 25, nameIndex := 450, descriptorIndex := 404, attributes := #[] }, { accessFlags := 25, nameIndex := 452, descriptorIndex := 404, attributes := #[] }, { accessFlags := 25, nameIndex := 454, descriptorIndex := 404, attributes := #[] }, { accessFlags := 25, nameIndex := 456, descriptorIndex := 404, attributes := #[] }, { accessFlags := 25, nameIndex := 458, descriptorIndex := 404, attributes := #[] }, { accessFlags := 25, nameIndex := 460, descriptorIndex := 404, attributes := #[] }, { accessFlags := 24, nameIndex := 462, descriptorIndex := 392, attributes := #[] }, { accessFlags := 25, nameIndex := 464, descriptorIndex := 404, attributes := #[] }, { accessFlags := 25, nameIndex := 465, descriptorIndex := 404, attributes := #[] }, { accessFlags := 25, nameIndex := 466, descriptorIndex := 404, attributes := #[] }, { accessFlags := 25, nameIndex := 467, descriptorIndex := 404, attributes := #[] }, { accessFlags := 25, nameIndex := 468, descriptorIndex := 404, attributes := #[] }, { accessFlags := 25, nameIndex := 469, descriptorIndex := 404, attributes := #[] }, { accessFlags := 25, nameIndex := 470, descriptorIndex := 404, attributes := #[] }, { accessFlags := 25, nameIndex := 471, descriptorIndex := 404, attributes := #[] }, { accessFlags := 25, nameIndex := 472, descriptorIndex := 404, attributes := #[] }, { accessFlags := 25, nameIndex := 473, descriptorIndex := 404, attributes := #[] }, { accessFlags := 25, nameIndex := 474, descriptorIndex := 404, attributes := #[] }, { accessFlags := 25, nameIndex := 475, descriptorIndex := 404, attributes := #[] }, { accessFlags := 25, nameIndex := 476, descriptorIndex := 404, attributes := #[] }, { accessFlags := 25, nameIndex := 477, descriptorIndex := 404, attributes := #[] }, { accessFlags := 25, nameIndex := 478, descriptorIndex := 404, attributes := #[] }, { accessFlags := 25, nameIndex := 479, descriptorIndex := 404, attributes := #[] }, { accessFlags := 25, nameIndex := 480, descriptorIndex := 404, attributes := #[] }, { accessFlags := 25, nameIndex := 481, descriptorIndex := 404, attributes := #[] }, { accessFlags := 25, nameIndex := 482, descriptorIndex := 404, attributes := #[] }, { accessFlags := 25, nameIndex := 484, descriptorIndex := 404, attributes := #[] }, { accessFlags := 25, nameIndex := 485, descriptorIndex := 404, attributes := #[] }, { accessFlags := 25, nameIndex := 486, descriptorIndex := 404, attributes := #[] }, { accessFlags := 25, nameIndex := 487, descriptorIndex := 404, attributes := #[] }, { accessFlags := 25, nameIndex := 488, descriptorIndex := 404, attributes := #[] }, { accessFlags := 25, nameIndex := 489, descriptorIndex := 22, attributes := #[] }, { accessFlags := 25, nameIndex := 490, descriptorIndex := 22, attributes := #[] }, { accessFlags := 25, nameIndex := 492, descriptorIndex := 22, attributes := #[] }, { accessFlags := 25, nameIndex := 493, descriptorIndex := 22, attributes := #[] }, { accessFlags := 25, nameIndex := 495, descriptorIndex := 22, attributes := #[] }, { accessFlags := 25, nameIndex := 496, descriptorIndex := 22, attributes := #[] }, { accessFlags := 25, nameIndex := 497, descriptorIndex := 392, attributes := #[] }, { accessFlags := 25, nameIndex := 498, descriptorIndex := 392, attributes := #[] }, { accessFlags := 25, nameIndex := 499, descriptorIndex := 392, attributes := #[] }, { accessFlags := 18, nameIndex := 21, descriptorIndex := 22, attributes := #[] }, { accessFlags := 26, nameIndex := 501, descriptorIndex := 502, attributes := #[] }, { accessFlags := 25, nameIndex := 505, descriptorIndex := 392, attributes := #[] }, { accessFlags := 25, nameIndex := 506, descriptorIndex := 392, attributes := #[] }, { accessFlags := 4120, nameIndex := 284, descriptorIndex := 285, attributes := #[] }])
  fields := #[{ name := "MIN_RADIX", type := .int, accessFlags := 25, slot := 0, constantValue := 0 }, { name := "MAX_RADIX", type := .int, accessFlags := 25, slot := 1, constantValue := 0 }, { name := "MIN_VALUE", type := .char, accessFlags := 25, slot := 2, constantValue := 0 }, { name := "MAX_VALUE", type := .char, accessFlags := 25, slot := 3, constantValue := 0 }, { name := "TYPE", type := (.object "java/lang/Class"), accessFlags := 25, slot := 4, constantValue := 0 }, { name := "UNASSIGNED", type := .byte, accessFlags := 25, slot := 5, constantValue := 0 }, { name := "UPPERCASE_LETTER", type := .byte, accessFlags := 25, slot := 6, constantValue := 0 }, { name := "LOWERCASE_LETTER", type := .byte, accessFlags := 25, slot := 7, constantValue := 0 }, { name := "TITLECASE_LETTER", type := .byte, accessFlags := 25, slot := 8, constantValue := 0 }, { name := "MODIFIER_LETTER", type := .byte, accessFlags := 25, slot := 9, constantValue := 0 }, { name := "OTHER_LETTER", type := .byte, accessFlags := 25, slot := 10, constantValue := 0 }, { name := "NON_SPACING_MARK", type := .byte, accessFlags := 25, slot := 11, constantValue := 0 }, { name := "ENCLOSING_MARK", type := .byte, accessFlags := 25, slot := 12, constantValue := 0 }, { name := "COMBINING_SPACING_MARK", type := .byte, accessFlags := 25, slot := 13, constantValue := 0 }, { name := "DECIMAL_DIGIT_NUMBER", type := .byte, accessFlags := 25, slot := 14, constantValue := 0 }, { name := "LETTER_NUMBER", type := .byte, accessFlags := 25, slot := 15, constantValue := 0 }, { name := "OTHER_NUMBER", type := .byte, accessFlags := 25, slot := 16, constantValue := 0 }, { name := "SPACE_SEPARATOR", type := .byte, accessFlags := 25, slot := 17, constantValue := 0 }, { name := "LINE_SEPARATOR", type := .byte, accessFlags := 25, slot := 18, constantValue := 0 }, { name := "PARAGRAPH_SEPARATOR", type := .byte, accessFlags := 25, slot := 19, constantValue := 0 }, { name := "CONTROL", type := .byte, accessFlags := 25, slot := 20, constantValue := 0 }, { name := "FORMAT", type := .byte, accessFlags := 25, slot := 21, constantValue := 0 }, { name := "PRIVATE_USE", type := .byte, accessFlags := 25, slot := 22, constantValue := 0 }, { name := "SURROGATE", type := .byte, accessFlags := 25, slot := 23, constantValue := 0 }, { name := "DASH_PUNCTUATION", type := .byte, accessFlags := 25, slot := 24, constantValue := 0 }, { name := "START_PUNCTUATION", type := .byte, accessFlags := 25, slot := 25, constantValue := 0 }, { name := "END_PUNCTUATION", type := .byte, accessFlags := 25, slot := 26, constantValue := 0 }, { name := "CONNECTOR_PUNCTUATION", type := .byte, accessFlags := 25, slot := 27, constantValue := 0 }, { name := "OTHER_PUNCTUATION", type := .byte, accessFlags := 25, slot := 28, constantValue := 0 }, { name := "MATH_SYMBOL", type := .byte, accessFlags := 25, slot := 29, constantValue := 0 }, { name := "CURRENCY_SYMBOL", type := .byte, accessFlags := 25, slot := 30, constantValue := 0 }, { name := "MODIFIER_SYMBOL", type := .byte, accessFlags := 25, slot := 31, constantValue := 0 }, { name := "OTHER_SYMBOL", type := .byte, accessFlags := 25, slot := 32, constantValue := 0 }, { name := "INITIAL_QUOTE_PUNCTUATION", type := .byte, accessFlags := 25, slot := 33, constantValue := 0 }, { name := "FINAL_QUOTE_PUNCTUATION", type := .byte, accessFlags := 25, slot := 34, constantValue := 0 }, { name := "ERROR", type := .int, accessFlags := 24, slot := 35, constantValue := 0 }, { name := "DIRECTIONALITY_UNDEFINED", type := .byte, accessFlags := 25, slot := 36, constantValue := 0 }, { name := "DIRECTIONALITY_LEFT_TO_RIGHT", type := .byte, accessFlags := 25, slot := 37, constantValue := 0 }, { name := "DIRECTIONALITY_RIGHT_TO_LEFT", type := .byte, accessFlags := 25, slot := 38, constantValue := 0 }, { name := "DIRECTIONALITY_RIGHT_TO_LEFT_ARABIC", type := .byte, accessFlags := 25, slot := 39, constantValue := 0 }, { name := "DIRECTIONALITY_EUROPEAN_NUMBER", type := .byte, accessFlags := 25, slot := 40, constantValue := 0 }, { name := "DIRECTIONALITY_EUROPEAN_NUMBER_SEPARATOR", type := .byte, accessFlags := 25, slot := 41, constantValue := 0 }, { name := "DIRECTIONALITY_EUROPEAN_NUMBER_TERMINATOR", type := .byte, accessFlags := 25, slot := 42, constantValue := 0 }, { name := "DIRECTIONALITY_ARABIC_NUMBER", type := .byte, accessFlags := 25, slot := 43, constantValue := 0 }, { name := "DIRECTIONALITY_COMMON_NUMBER_SEPARATOR", type := .byte, accessFlags := 25, slot := 44, constantValue := 0 }, { name := "DIRECTIONALITY_NONSPACING_MARK", type := .byte, accessFlags := 25, slot := 45, constantValue := 0 }, { name := "DIRECTIONALITY_BOUNDARY_NEUTRAL", type := .byte, accessFlags := 25, slot := 46, constantValue := 0 }, { name := "DIRECTIONALITY_PARAGRAPH_SEPARATOR", type := .byte, accessFlags := 25, slot := 47, constantValue := 0 }, { name := "DIRECTIONALITY_SEGMENT_SEPARATOR", type := .byte, accessFlags := 25, slot := 48, constantValue := 0 }, { name := "DIRECTIONALITY_WHITESPACE", type := .byte, accessFlags := 25, slot := 49, constantValue := 0 }, { name := "DIRECTIONALITY_OTHER_NEUTRALS", type := .byte, accessFlags := 25, slot := 50, constantValue := 0 }, { name := "DIRECTIONALITY_LEFT_TO_RIGHT_EMBEDDING", type := .byte, accessFlags := 25, slot := 51, constantValue := 0 }, { name := "DIRECTIONALITY_LEFT_TO_RIGHT_OVERRIDE", type := .byte, accessFlags := 25, slot := 52, constantValue := 0 }, { name := "DIRECTIONALITY_RIGHT_TO_LEFT_EMBEDDING", type := .byte, accessFlags := 25, slot := 53, constantValue := 0 }, { name := "DIRECTIONALITY_RIGHT_TO_LEFT_OVERRIDE", type := .byte, accessFlags := 25, slot := 54, constantValue := 0 }, { name := "DIRECTIONALITY_POP_DIRECTIONAL_FORMAT", type := .byte, accessFlags := 25, slot := 55, constantValue := 0 }, { name := "DIRECTIONALITY_LEFT_TO_RIGHT_ISOLATE", type := .byte, accessFlags := 25, slot := 56, constantValue := 0 }, { name := "DIRECTIONALITY_RIGHT_TO_LEFT_ISOLATE", type := .byte, accessFlags := 25, slot := 57, constantValue := 0 }, { name := "DIRECTIONALITY_FIRST_STRONG_ISOLATE", type := .byte, accessFlags := 25, slot := 58, constantValue := 0 }, { name := "DIRECTIONALITY_POP_DIRECTIONAL_ISOLATE", type := .byte, accessFlags := 25, slot := 59, constantValue := 0 }, { name := "MIN_HIGH_SURROGATE", type := .char, accessFlags := 25, slot := 60, constantValue := 0 }, { name := "MAX_HIGH_SURROGATE", type := .char, accessFlags := 25, slot := 61, constantValue := 0 }, { name := "MIN_LOW_SURROGATE", type := .char, accessFlags := 25, slot := 62, constantValue := 0 }, { name := "MAX_LOW_SURROGATE", type := .char, accessFlags := 25, slot := 63, constantValue := 0 }, { name := "MIN_SURROGATE", type := .char, accessFlags := 25, slot := 64, constantValue := 0 }, { name := "MAX_SURROGATE", type := .char, accessFlags := 25, slot := 65, constantValue := 0 }, { name := "MIN_SUPPLEMENTARY_CODE_POINT", type := .int, accessFlags := 25, slot := 66, constantValue := 0 }, { name := "MIN_CODE_POINT", type := .int, accessFlags := 25, slot := 67, constantValue := 0 }, { name := "MAX_CODE_POINT", type := .int, accessFlags := 25, slot := 68, constantValue := 0 }, { name := "value", type := .char, accessFlags := 18, slot := 0, constantValue := 0 }, { name := "serialVersionUID", type := .long, accessFlags := 26, slot := 69, constantValue := 0 }, { name := "SIZE", type := .int, accessFlags := 25, slot := 70, constantValue := 0 }, { name := "BYTES", type := .int, accessFlags := 25, slot := 71, constantValue := 0 }, { name := "$assertionsDisabled", type := .boolean, accessFlags := 4120, slot := 72, constantValue := 0 }]
  methods := #[k5m0, k5m1]
  instanceTypes := #[.char]
  staticTypes := #[.int, .int, .char, .char, (.object "java/lang/Class"), .byte, .byte, .byte, .byte, .byte, .byte, .byte, .byte, .byte, .byte, .byte, .byte, .byte, .byte, .byte, .byte, .byte, .byte, .byte, .byte, .byte, .byte, .byte, .byte, .byte, .byte, .byte, .byte, .byte, .byte, .int, .byte, .byte, .byte, .byte, .byte, .byte, .byte, .byte, .byte, .byte, .byte, .byte, .byte, .byte, .byte, .byte, .byte, .byte, .byte, .byte, .byte, .byte, .byte, .byte, .char, .char, .char, .char, .char, .char, .int, .int, .int, .long, .int, .int, .boolean]
  resolved := Array.replicate 604 none
  statics := none }

def pool6 : Array CpInfo := pool [(2, .class_ 4), (1, u "java/lang/Object"), (0, u "<init>"), (0, u "()V"), (0, .class_ 8), (0, u "java/lang/Character"), (7, .class_ 18), (1, u "java/lang/Character$CharacterCache"), (0, u "$assertionsDisabled"), (0, u "Z"), (8, u "archivedCache"), (0, u "[Ljava/lang/Character;"), (5, u "cache")] 22

def k6m0 : Method := { name := "<init>", desc := "()V", sig := { parameters := [], returnType := none }, accessFlags := 2, code := none }
/-- java/lang/Character$CharacterCache -/
def k6 : Class := { plain "java/lang/Character$CharacterCache" (some 0) with
  accessFlags := 48
  interfaces := #[]
  cf := some (fileOf pool6 16 #[.nestHost 7] #[{ accessFlags := 2, nameIndex := 5, descriptorIndex := 6, attributes := #[] }] 48 2 #[] #[{ accessFlags := 24, nameIndex := 36, descriptorIndex := 30, attributes := #[] }, { accessFlags := 8, nameIndex := 29, descriptorIndex := 30, attributes := #[] }, { accessFlags := 4120, nameIndex := 19, descriptorIndex := 20, attributes := #[] }])
  fields := #[{ name := "cache", type := (.array (.object "java/lang/Character")), accessFlags := 24, slot := 0, constantValue := 0 }, { name := "archivedCache", type := (.array (.object "java/lang/Character")), accessFlags := 8, slot := 1, constantValue := 0 }, { name := "$assertionsDisabled", type := .boolean, accessFlags := 4120, slot := 2, constantValue := 0 }]
  methods := #[k6m0]
  instanceTypes := #[]
  staticTypes := #[(.array (.object "java/lang/Character")), (.array (.object "java/lang/Character")), .boolean]
  resolved := Array.replicate 59 none
  statics := some 0 }

def pool7 : Array CpInfo := pool [(1, .fieldref 2 3), (0, .class_ 4), (0, .nameAndType 5 6), (0, u "java/util/Optional"), (0, u "EMPTY"), (0, u "Ljava/util/Optional;"), (0, .methodref 8 9), (0, .class_ 10), (0, .nameAndType 11 12), (0, u "java/lang/Object"), (0, u "<init>"), (0, u "()V"), (0, .fieldref 2 14), (0, .nameAndType 15 16), (0, u "value"), (0, u "Ljava/lang/Object;"), (0, .methodref 18 19), (0, .class_ 20), (0, .nameAndType 21 22), (0, u "java/util/Objects"), (0, u "requireNonNull"), (0, u "(Ljava/lang/Object;)Ljava/lang/Object;"), (0, .methodref 2 24), (0, .nameAndType 11 25), (0, u "(Ljava/lang/Object;)V"), (29, u "empty"), (0, u "()Ljava/util/Optional;"), (8, u "(Ljava/lang/Object;)Ljava/util/Optional;"), (16, u "of")] 104

def k7c0 : Code := { maxStack := 1, maxLocals := 1, code := jdk_32_method_1_code, exceptionTable := #[], attributes := #[] }
def k7m0 : Method := { name := "empty", desc := "()Ljava/util/Optional;", sig := { parameters := [], returnType := some (.object "java/util/Optional") }, accessFlags := 9, code := some k7c0 }
def k7c1 : Code := { maxStack := 2, maxLocals := 2, code := jdk_32_method_2_code, exceptionTable := #[], attributes := #[] }
def k7m1 : Method := { name := "<init>", desc := "(Ljava/lang/Object;)V", sig := { parameters := [(.object "java/lang/Object")], returnType := none }, accessFlags := 2, code := some k7c1 }
def k7c2 : Code := { maxStack := 3, maxLocals := 1, code := jdk_32_method_3_code, exceptionTable := #[], attributes := #[] }
def k7m2 : Method := { name := "of", desc := "(Ljava/lang/Object;)Ljava/util/Optional;", sig := { parameters := [(.object "java/lang/Object")], returnType := some (.object "java/util/Optional") }, accessFlags := 9, code := some k7c2 }
/-- java/util/Optional -/
def k7 : Class := { plain "java/util/Optional" (some 0) with
  accessFlags := 49
  interfaces := #[]
  cf := some (fileOf pool7 2 #[] #[{ accessFlags := 9, nameIndex := 55, descriptorIndex := 56, attributes := #[] }, { accessFlags := 2, nameIndex := 11, descriptorIndex := 25, attributes := #[] }, { accessFlags := 9, nameIndex := 82, descriptorIndex := 65, attributes := #[] }] 49 8 #[] #[{ accessFlags := 26, nameIndex := 5, descriptorIndex := 6, attributes := #[] }, { accessFlags := 18, nameIndex := 15, descriptorIndex := 16, attributes := #[] }])
  fields := #[{ name := "EMPTY", type := (.object "java/util/Optional"), accessFlags := 26, slot := 0, constantValue := 0 }, { name := "value", type := (.object "java/lang/Object"), accessFlags := 18, slot := 0, constantValue := 0 }]
  methods := #[k7m0, k7m1, k7m2]
  instanceTypes := #[(.object "java/lang/Object")]
  staticTypes := #[(.object "java/util/Optional")]
  resolved := Array.replicate 187 none
  statics := some 1 }

def pool8 : Array CpInfo := pool [(2, .class_ 4), (1, u "java/lang/Object"), (0, u "<init>"), (0, u "()V"), (35, .class_ 44), (1, u "java/util/Objects"), (0, u "requireNonNull"), (0, u "(Ljava/lang/Object;)Ljava/lang/Object;")] 137

def k8m0 : Method := { name := "<init>", desc := "()V", sig := { parameters := [], returnType := none }, accessFlags := 2, code := none }
def k8c1 : Code := { maxStack := 2, maxLocals := 1, code := jdk_31_method_10_code, exceptionTable := #[], attributes := #[] }
def k8m1 : Method := { name := "requireNonNull", desc := "(Ljava/lang/Object;)Ljava/lang/Object;", sig := { parameters := [(.object "java/lang/Object")], returnType := some (.object "java/lang/Object") }, accessFlags := 9, code := some k8c1 }
/-- java/util/Objects -/
def k8 : Class := { plain "java/util/Objects" (some 0) with
  accessFlags := 49
  interfaces := #[]
  cf := some (fileOf pool8 42 #[] #[{ accessFlags := 2, nameIndex := 5, descriptorIndex := 6, attributes := #[] }, { accessFlags := 9, nameIndex := 45, descriptorIndex := 46, attributes := #[] }] 49 2 #[] #[])
  fields := #[]
  methods := #[k8m0, k8m1]
  instanceTypes := #[]
  staticTypes := #[]
  resolved := Array.replicate 184 none
  statics := none }

def pool9 : Array CpInfo := pool [(1, .methodref 2 3), (0, .class_ 4), (0, .nameAndType 5 6), (0, u "java/lang/Object"), (0, u "<init>"), (0, u "()V"), (0, .class_ 8), (0, u "java/lang/Record")] 13

def k9c0 : Code := { maxStack := 1, maxLocals := 1, code := jdk_30_method_1_code, exceptionTable := #[], attributes := #[] }
def k9m0 : Method := { name := "<init>", desc := "()V", sig := { parameters := [], returnType := none }, accessFlags := 4, code := some k9c0 }
/-- java/lang/Record -/
def k9 : Class := { plain "java/lang/Record" (some 0) with
  accessFlags := 1057
  interfaces := #[]
  cf := some (fileOf pool9 7 #[] #[{ accessFlags := 4, nameIndex := 5, descriptorIndex := 6, attributes := #[] }] 1057 2 #[] #[])
  fields := #[]
  methods := #[k9m0]
  instanceTypes := #[]
  staticTypes := #[]
  resolved := Array.replicate 22 none
  statics := none }

def pool10 : Array CpInfo := pool [(1, .methodref 2 3), (0, .class_ 4), (0, .nameAndType 5 6), (0, u "java/lang/Record"), (0, u "<init>"), (0, u "()V"), (0, .fieldref 8 9), (0, .class_ 10), (0, .nameAndType 11 12), (0, u "com/example/labwire/labwire/hl7/Delimiters"), (0, u "field"), (0, u "C"), (0, .fieldref 8 14), (0, .nameAndType 15 12), (0, u "component"), (0, .fieldref 8 17), (0, .nameAndType 18 12), (0, u "repetition"), (0, .fieldref 8 20), (0, .nameAndType 21 12), (0, u "escape"), (0, .fieldref 8 23), (0, .nameAndType 24 12), (0, u "subcomponent"), (0, .fieldref 8 26), (0, .nameAndType 27 28), (0, u "truncation"), (0, u "Ljava/util/Optional;"), (2, u "DECLARING"), (0, u "Ljava/util/List;"), (32, u "()Z"), (32, u "(CCCCCLjava/util/Optional;)V"), (41, .fieldref 8 141), (0, .nameAndType 142 143), (0, u "STANDARD"), (0, u "Lcom/example/labwire/labwire/hl7/Delimiters;"), (2, u "isStandard"), (46, u "HEADER"), (0, u "Ljava/lang/String;"), (1, u "DECLARING_FIELDS"), (0, u "I")] 56

def k10c0 : Code := { maxStack := 2, maxLocals := 7, code := prog_106_method_1_code, exceptionTable := #[], attributes := #[] }
def k10m0 : Method := { name := "<init>", desc := "(CCCCCLjava/util/Optional;)V", sig := { parameters := [.char, .char, .char, .char, .char, (.object "java/util/Optional")], returnType := none }, accessFlags := 1, code := some k10c0 }
def k10c1 : Code := { maxStack := 2, maxLocals := 1, code := prog_106_method_10_code, exceptionTable := #[], attributes := #[] }
def k10m1 : Method := { name := "isStandard", desc := "()Z", sig := { parameters := [], returnType := some .boolean }, accessFlags := 1, code := some k10c1 }
/-- com/example/labwire/labwire/hl7/Delimiters -/
def k10 : Class := { plain "com/example/labwire/labwire/hl7/Delimiters" (some 9) with
  accessFlags := 49
  interfaces := #[]
  cf := some (fileOf pool10 8 #[] #[{ accessFlags := 1, nameIndex := 5, descriptorIndex := 98, attributes := #[] }, { accessFlags := 1, nameIndex := 146, descriptorIndex := 65, attributes := #[] }] 49 2 #[] #[{ accessFlags := 18, nameIndex := 11, descriptorIndex := 12, attributes := #[] }, { accessFlags := 18, nameIndex := 15, descriptorIndex := 12, attributes := #[] }, { accessFlags := 18, nameIndex := 18, descriptorIndex := 12, attributes := #[] }, { accessFlags := 18, nameIndex := 21, descriptorIndex := 12, attributes := #[] }, { accessFlags := 18, nameIndex := 24, descriptorIndex := 12, attributes := #[] }, { accessFlags := 18, nameIndex := 27, descriptorIndex := 28, attributes := #[] }, { accessFlags := 25, nameIndex := 193, descriptorIndex := 194, attributes := #[] }, { accessFlags := 25, nameIndex := 142, descriptorIndex := 143, attributes := #[] }, { accessFlags := 24, nameIndex := 196, descriptorIndex := 197, attributes := #[] }, { accessFlags := 26, nameIndex := 31, descriptorIndex := 32, attributes := #[] }])
  fields := #[{ name := "field", type := .char, accessFlags := 18, slot := 0, constantValue := 0 }, { name := "component", type := .char, accessFlags := 18, slot := 1, constantValue := 0 }, { name := "repetition", type := .char, accessFlags := 18, slot := 2, constantValue := 0 }, { name := "escape", type := .char, accessFlags := 18, slot := 3, constantValue := 0 }, { name := "subcomponent", type := .char, accessFlags := 18, slot := 4, constantValue := 0 }, { name := "truncation", type := (.object "java/util/Optional"), accessFlags := 18, slot := 5, constantValue := 0 }, { name := "HEADER", type := (.object "java/lang/String"), accessFlags := 25, slot := 0, constantValue := 0 }, { name := "STANDARD", type := (.object "com/example/labwire/labwire/hl7/Delimiters"), accessFlags := 25, slot := 1, constantValue := 0 }, { name := "DECLARING_FIELDS", type := .int, accessFlags := 24, slot := 2, constantValue := 0 }, { name := "DECLARING", type := (.object "java/util/List"), accessFlags := 26, slot := 3, constantValue := 0 }]
  methods := #[k10m0, k10m1]
  instanceTypes := #[.char, .char, .char, .char, .char, (.object "java/util/Optional")]
  staticTypes := #[(.object "java/lang/String"), (.object "com/example/labwire/labwire/hl7/Delimiters"), .int, (.object "java/util/List")]
  resolved := Array.replicate 254 none
  statics := some 2 }

def pool11 : Array CpInfo := pool [(1, u "java/lang/Cloneable"), (0, .class_ 1), (0, u "java/lang/Object"), (0, .class_ 3)] 3

/-- java/lang/Cloneable -/
def k11 : Class := { plain "java/lang/Cloneable" (some 0) with
  accessFlags := 1537
  interfaces := #[]
  cf := some (fileOf pool11 2 #[] #[] 1537 4 #[] #[])
  fields := #[]
  methods := #[]
  instanceTypes := #[]
  staticTypes := #[]
  resolved := Array.replicate 8 none
  statics := none }

/-- the primitive byte -/
def k12 : Class := { plain "byte" none with kind := .primitive 'B', accessFlags := 0x411 }
/-- [B -/
def k13 : Class := { plain "[B" (some 0) with kind := .array 12 .byte, interfaces := #[11, 2], accessFlags := 1041 }

/-- the primitive int -/
def k14 : Class := { plain "int" none with kind := .primitive 'I', accessFlags := 0x411 }
/-- [I -/
def k15 : Class := { plain "[I" (some 0) with kind := .array 14 .int, interfaces := #[11, 2], accessFlags := 1041 }

/-- [Ljava/lang/Character; -/
def k16 : Class := { plain "[Ljava/lang/Character;" (some 0) with kind := .array 5 (.object "java/lang/Character"), interfaces := #[11, 2], accessFlags := 1041 }

def heap : Heap := #[{ cls := 6, slots := #[.ref 3, .null, .int 0], vm := .statics 6 },
  { cls := 7, slots := #[.ref 132], vm := .statics 7 },
  { cls := 10, slots := #[.null, .ref 133, .int 0, .null], vm := .statics 10 },
  { cls := 16, slots := #[.ref 4, .ref 5, .ref 6, .ref 7, .ref 8, .ref 9, .ref 10, .ref 11, .ref 12, .ref 13, .ref 14, .ref 15, .ref 16, .ref 17, .ref 18, .ref 19, .ref 20, .ref 21, .ref 22, .ref 23, .ref 24, .ref 25, .ref 26, .ref 27, .ref 28, .ref 29, .ref 30, .ref 31, .ref 32, .ref 33, .ref 34, .ref 35, .ref 36, .ref 37, .ref 38, .ref 39, .ref 40, .ref 41, .ref 42, .ref 43, .ref 44, .ref 45, .ref 46, .ref 47, .ref 48, .ref 49, .ref 50, .ref 51, .ref 52, .ref 53, .ref 54, .ref 55, .ref 56, .ref 57, .ref 58, .ref 59, .ref 60, .ref 61, .ref 62, .ref 63, .ref 64, .ref 65, .ref 66, .ref 67, .ref 68, .ref 69, .ref 70, .ref 71, .ref 72, .ref 73, .ref 74, .ref 75, .ref 76, .ref 77, .ref 78, .ref 79, .ref 80, .ref 81, .ref 82, .ref 83, .ref 84, .ref 85, .ref 86, .ref 87, .ref 88, .ref 89, .ref 90, .ref 91, .ref 92, .ref 93, .ref 94, .ref 95, .ref 96, .ref 97, .ref 98, .ref 99, .ref 100, .ref 101, .ref 102, .ref 103, .ref 104, .ref 105, .ref 106, .ref 107, .ref 108, .ref 109, .ref 110, .ref 111, .ref 112, .ref 113, .ref 114, .ref 115, .ref 116, .ref 117, .ref 118, .ref 119, .ref 120, .ref 121, .ref 122, .ref 123, .ref 124, .ref 125, .ref 126, .ref 127, .ref 128, .ref 129, .ref 130, .ref 131], vm := .none },
  { cls := 5, slots := #[.int 0], vm := .none },
  { cls := 5, slots := #[.int 1], vm := .none },
  { cls := 5, slots := #[.int 2], vm := .none },
  { cls := 5, slots := #[.int 3], vm := .none },
  { cls := 5, slots := #[.int 4], vm := .none },
  { cls := 5, slots := #[.int 5], vm := .none },
  { cls := 5, slots := #[.int 6], vm := .none },
  { cls := 5, slots := #[.int 7], vm := .none },
  { cls := 5, slots := #[.int 8], vm := .none },
  { cls := 5, slots := #[.int 9], vm := .none },
  { cls := 5, slots := #[.int 10], vm := .none },
  { cls := 5, slots := #[.int 11], vm := .none },
  { cls := 5, slots := #[.int 12], vm := .none },
  { cls := 5, slots := #[.int 13], vm := .none },
  { cls := 5, slots := #[.int 14], vm := .none },
  { cls := 5, slots := #[.int 15], vm := .none },
  { cls := 5, slots := #[.int 16], vm := .none },
  { cls := 5, slots := #[.int 17], vm := .none },
  { cls := 5, slots := #[.int 18], vm := .none },
  { cls := 5, slots := #[.int 19], vm := .none },
  { cls := 5, slots := #[.int 20], vm := .none },
  { cls := 5, slots := #[.int 21], vm := .none },
  { cls := 5, slots := #[.int 22], vm := .none },
  { cls := 5, slots := #[.int 23], vm := .none },
  { cls := 5, slots := #[.int 24], vm := .none },
  { cls := 5, slots := #[.int 25], vm := .none },
  { cls := 5, slots := #[.int 26], vm := .none },
  { cls := 5, slots := #[.int 27], vm := .none },
  { cls := 5, slots := #[.int 28], vm := .none },
  { cls := 5, slots := #[.int 29], vm := .none },
  { cls := 5, slots := #[.int 30], vm := .none },
  { cls := 5, slots := #[.int 31], vm := .none },
  { cls := 5, slots := #[.int 32], vm := .none },
  { cls := 5, slots := #[.int 33], vm := .none },
  { cls := 5, slots := #[.int 34], vm := .none },
  { cls := 5, slots := #[.int 35], vm := .none },
  { cls := 5, slots := #[.int 36], vm := .none },
  { cls := 5, slots := #[.int 37], vm := .none },
  { cls := 5, slots := #[.int 38], vm := .none },
  { cls := 5, slots := #[.int 39], vm := .none },
  { cls := 5, slots := #[.int 40], vm := .none },
  { cls := 5, slots := #[.int 41], vm := .none },
  { cls := 5, slots := #[.int 42], vm := .none },
  { cls := 5, slots := #[.int 43], vm := .none },
  { cls := 5, slots := #[.int 44], vm := .none },
  { cls := 5, slots := #[.int 45], vm := .none },
  { cls := 5, slots := #[.int 46], vm := .none },
  { cls := 5, slots := #[.int 47], vm := .none },
  { cls := 5, slots := #[.int 48], vm := .none },
  { cls := 5, slots := #[.int 49], vm := .none },
  { cls := 5, slots := #[.int 50], vm := .none },
  { cls := 5, slots := #[.int 51], vm := .none },
  { cls := 5, slots := #[.int 52], vm := .none },
  { cls := 5, slots := #[.int 53], vm := .none },
  { cls := 5, slots := #[.int 54], vm := .none },
  { cls := 5, slots := #[.int 55], vm := .none },
  { cls := 5, slots := #[.int 56], vm := .none },
  { cls := 5, slots := #[.int 57], vm := .none },
  { cls := 5, slots := #[.int 58], vm := .none },
  { cls := 5, slots := #[.int 59], vm := .none },
  { cls := 5, slots := #[.int 60], vm := .none },
  { cls := 5, slots := #[.int 61], vm := .none },
  { cls := 5, slots := #[.int 62], vm := .none },
  { cls := 5, slots := #[.int 63], vm := .none },
  { cls := 5, slots := #[.int 64], vm := .none },
  { cls := 5, slots := #[.int 65], vm := .none },
  { cls := 5, slots := #[.int 66], vm := .none },
  { cls := 5, slots := #[.int 67], vm := .none },
  { cls := 5, slots := #[.int 68], vm := .none },
  { cls := 5, slots := #[.int 69], vm := .none },
  { cls := 5, slots := #[.int 70], vm := .none },
  { cls := 5, slots := #[.int 71], vm := .none },
  { cls := 5, slots := #[.int 72], vm := .none },
  { cls := 5, slots := #[.int 73], vm := .none },
  { cls := 5, slots := #[.int 74], vm := .none },
  { cls := 5, slots := #[.int 75], vm := .none },
  { cls := 5, slots := #[.int 76], vm := .none },
  { cls := 5, slots := #[.int 77], vm := .none },
  { cls := 5, slots := #[.int 78], vm := .none },
  { cls := 5, slots := #[.int 79], vm := .none },
  { cls := 5, slots := #[.int 80], vm := .none },
  { cls := 5, slots := #[.int 81], vm := .none },
  { cls := 5, slots := #[.int 82], vm := .none },
  { cls := 5, slots := #[.int 83], vm := .none },
  { cls := 5, slots := #[.int 84], vm := .none },
  { cls := 5, slots := #[.int 85], vm := .none },
  { cls := 5, slots := #[.int 86], vm := .none },
  { cls := 5, slots := #[.int 87], vm := .none },
  { cls := 5, slots := #[.int 88], vm := .none },
  { cls := 5, slots := #[.int 89], vm := .none },
  { cls := 5, slots := #[.int 90], vm := .none },
  { cls := 5, slots := #[.int 91], vm := .none },
  { cls := 5, slots := #[.int 92], vm := .none },
  { cls := 5, slots := #[.int 93], vm := .none },
  { cls := 5, slots := #[.int 94], vm := .none },
  { cls := 5, slots := #[.int 95], vm := .none },
  { cls := 5, slots := #[.int 96], vm := .none },
  { cls := 5, slots := #[.int 97], vm := .none },
  { cls := 5, slots := #[.int 98], vm := .none },
  { cls := 5, slots := #[.int 99], vm := .none },
  { cls := 5, slots := #[.int 100], vm := .none },
  { cls := 5, slots := #[.int 101], vm := .none },
  { cls := 5, slots := #[.int 102], vm := .none },
  { cls := 5, slots := #[.int 103], vm := .none },
  { cls := 5, slots := #[.int 104], vm := .none },
  { cls := 5, slots := #[.int 105], vm := .none },
  { cls := 5, slots := #[.int 106], vm := .none },
  { cls := 5, slots := #[.int 107], vm := .none },
  { cls := 5, slots := #[.int 108], vm := .none },
  { cls := 5, slots := #[.int 109], vm := .none },
  { cls := 5, slots := #[.int 110], vm := .none },
  { cls := 5, slots := #[.int 111], vm := .none },
  { cls := 5, slots := #[.int 112], vm := .none },
  { cls := 5, slots := #[.int 113], vm := .none },
  { cls := 5, slots := #[.int 114], vm := .none },
  { cls := 5, slots := #[.int 115], vm := .none },
  { cls := 5, slots := #[.int 116], vm := .none },
  { cls := 5, slots := #[.int 117], vm := .none },
  { cls := 5, slots := #[.int 118], vm := .none },
  { cls := 5, slots := #[.int 119], vm := .none },
  { cls := 5, slots := #[.int 120], vm := .none },
  { cls := 5, slots := #[.int 121], vm := .none },
  { cls := 5, slots := #[.int 122], vm := .none },
  { cls := 5, slots := #[.int 123], vm := .none },
  { cls := 5, slots := #[.int 124], vm := .none },
  { cls := 5, slots := #[.int 125], vm := .none },
  { cls := 5, slots := #[.int 126], vm := .none },
  { cls := 5, slots := #[.int 127], vm := .none },
  { cls := 7, slots := #[.null], vm := .none },
  { cls := 10, slots := #[.int 124, .int 94, .int 126, .int 92, .int 38, .ref 132], vm := .none }]
def classes : Array Class := #[k0, k1, k2, k3, k4, k5, k6, k7, k8, k9, k10, k11, k12, k13, k14, k15, k16]
def interned : List (Array UInt16 × Addr) := []
def slotsUsed : Nat := 271
def theMethod : MethodId := ⟨1, 2⟩
def args0 : Array Value := #[.int 5, .int 5, .int 5, .int 5, .int 5, .int 5]
def aboutOver (below : List Frame) : State where
  vm := { classes := classes, interned := interned.toArray }
  heap := heap
  slotsUsed := slotsUsed
  threads := #[{ frames := .invoking theMethod args0 :: below }]
def below0 : List Frame := [.native { method := ⟨0, 0⟩, args := #[] }]
def about1 : State := aboutOver below0
def p0 : Program := .bare "" "" ""
def e0 : Env := launch0.env 0 0 0
theorem w_frames : about1.frames = Frame.invoking theMethod args0 :: below0 := rfl
set_option maxRecDepth 65536 in
theorem w_args : argsFit about1.vm theMethod args0 = true := by decide +kernel
set_option maxRecDepth 65536 in
theorem w_heap : heapFits about1 = true := by decide +kernel
set_option maxRecDepth 65536 in
theorem w_runnable : about1.curStatus? = some .runnable := by decide +kernel
set_option maxRecDepth 65536 in
theorem w_alone : about1.alone = true := by decide +kernel
set_option maxRecDepth 65536 in
theorem w_named : about1.methodNamed? x = some theMethod := by decide +kernel
set_option maxRecDepth 65536 in
theorem w_hears : about1.hears theMethod below0 = true := by decide +kernel
set_option maxRecDepth 65536 in
theorem w_ripe : about1.ripe theMethod args0 below0 = true := by decide +kernel
theorem w_running : about1.status = .running := rfl
set_option maxRecDepth 65536 in
theorem w_room : about1.hasRoom e0.platform room_1 = true :=
  launch0.hasRoom_least _ room_1 (by decide +kernel) (by decide +kernel) (by decide +kernel) (by decide +kernel) (by decide +kernel) (by decide +kernel)
theorem allAtoms_all (ts : List Jvm.Cond) (a : Array Jvm.Value) (st : Jvm.State) : (allAtoms ts).before a st = ts.all (fun c => c.before a st) := by
  induction ts with
  | nil => rfl
  | cons c t ih =>
    show (Jvm.Cond.and c (allAtoms t)).before a st = _
    rw [Jvm.Cond.before_and, ih, List.all_cons]
def words1 : List Jvm.Cond := Jvm.Cond.code x code maxLocals ret :: tables_1
/-- a 'code' word, met by the world's own term for the bytes: nothing is compared byte by byte -/
theorem code_word {y : MethodName} {bytes : ByteArray} {mx : Nat} {rt : Option FieldType} {a : Array Value} {s : State} {m : MethodId} {meth : Method} {c : Code} (h1 : s.methodNamed? y = some m) (h2 : s.vm.method? m = some meth) (h3 : meth.code = some c) (h4 : c.code = bytes)
    (h5 : (c.maxLocals == mx && c.exceptionTable.isEmpty && decide (c.maxStack ≤ mostOperands) && decide (meth.sig.returnType = rt) && !meth.locks && decide (parseMethodDescriptor y.desc = some meth.sig)) = true) : (Jvm.Cond.code y bytes mx rt).before a s = true := by
  simp only [Bool.and_eq_true, beq_iff_eq, Bool.not_eq_true', decide_eq_true_eq] at h5
  obtain ⟨⟨⟨⟨⟨g1, g2⟩, g3⟩, g4⟩, g5⟩, g6⟩ := h5
  simp [Cond.before, Cond.holds, Cond.value, h1, h2, h3, h4, g1, g2, g3, g4, g5, g6]
def isCode : Jvm.Cond → Bool
  | .code _ _ _ _ => true
  | _ => false
theorem all_split {L : List Jvm.Cond} {P : Jvm.Cond → Bool} (h1 : L.all (fun c => isCode c || P c) = true) (h2 : ∀ c ∈ L.filter isCode, P c = true) : L.all P = true := by
  refine List.all_eq_true.mpr fun c hc => ?_
  have h := List.all_eq_true.mp h1 c hc
  rcases Bool.eq_false_or_eq_true (isCode c) with hi | hi
  · exact h2 c (List.mem_filter.mpr ⟨hc, hi⟩)
  · simpa [hi] using h
set_option maxRecDepth 65536 in
theorem w_c0 : (Jvm.Cond.code x code maxLocals ret).before args0 about1 = true := code_word (m := ⟨1, 2⟩) (meth := k1m2) (c := k1c2) (by decide +kernel) rfl rfl rfl (by decide +kernel)
set_option maxRecDepth 65536 in
theorem w_c1 : (Jvm.Cond.code ({ cls := "com/example/labwire/labwire/hl7/DelimitersIsStandardPinLaw", name := "pick", desc := "(IC)C" } : Jvm.MethodName) method_2_code (2 : Nat) (Option.some Jvm.ClassFile.FieldType.char)).before args0 about1 = true := code_word (m := ⟨1, 1⟩) (meth := k1m1) (c := k1c1) (by decide +kernel) rfl rfl rfl (by decide +kernel)
set_option maxRecDepth 65536 in
theorem w_c2 : (Jvm.Cond.code ({ cls := "java/lang/Character", name := "valueOf", desc := "(C)Ljava/lang/Character;" } : Jvm.MethodName) jdk_89_method_3_code (1 : Nat) (Option.some (Jvm.ClassFile.FieldType.object "java/lang/Character"))).before args0 about1 = true := code_word (m := ⟨5, 1⟩) (meth := k5m1) (c := k5c1) (by decide +kernel) rfl rfl rfl (by decide +kernel)
set_option maxRecDepth 65536 in
theorem w_c3 : (Jvm.Cond.code ({ cls := "java/util/Optional", name := "of", desc := "(Ljava/lang/Object;)Ljava/util/Optional;" } : Jvm.MethodName) jdk_32_method_3_code (1 : Nat) (Option.some (Jvm.ClassFile.FieldType.object "java/util/Optional"))).before args0 about1 = true := code_word (m := ⟨7, 2⟩) (meth := k7m2) (c := k7c2) (by decide +kernel) rfl rfl rfl (by decide +kernel)
set_option maxRecDepth 65536 in
theorem w_c4 : (Jvm.Cond.code ({ cls := "java/util/Objects", name := "requireNonNull", desc := "(Ljava/lang/Object;)Ljava/lang/Object;" } : Jvm.MethodName) jdk_31_method_10_code (1 : Nat) (Option.some (Jvm.ClassFile.FieldType.object "java/lang/Object"))).before args0 about1 = true := code_word (m := ⟨8, 1⟩) (meth := k8m1) (c := k8c1) (by decide +kernel) rfl rfl rfl (by decide +kernel)
set_option maxRecDepth 65536 in
theorem w_c5 : (Jvm.Cond.code ({ cls := "java/util/Optional", name := "<init>", desc := "(Ljava/lang/Object;)V" } : Jvm.MethodName) jdk_32_method_2_code (2 : Nat) (Option.none : Option Jvm.ClassFile.FieldType)).before args0 about1 = true := code_word (m := ⟨7, 1⟩) (meth := k7m1) (c := k7c1) (by decide +kernel) rfl rfl rfl (by decide +kernel)
set_option maxRecDepth 65536 in
theorem w_c6 : (Jvm.Cond.code ({ cls := "java/lang/Object", name := "<init>", desc := "()V" } : Jvm.MethodName) object_method_1_code (1 : Nat) (Option.none : Option Jvm.ClassFile.FieldType)).before args0 about1 = true := code_word (m := ⟨0, 0⟩) (meth := k0m0) (c := k0c0) (by decide +kernel) rfl rfl rfl (by decide +kernel)
set_option maxRecDepth 65536 in
theorem w_c7 : (Jvm.Cond.code ({ cls := "com/example/labwire/labwire/hl7/Delimiters", name := "<init>", desc := "(CCCCCLjava/util/Optional;)V" } : Jvm.MethodName) prog_106_method_1_code (7 : Nat) (Option.none : Option Jvm.ClassFile.FieldType)).before args0 about1 = true := code_word (m := ⟨10, 0⟩) (meth := k10m0) (c := k10c0) (by decide +kernel) rfl rfl rfl (by decide +kernel)
set_option maxRecDepth 65536 in
theorem w_c8 : (Jvm.Cond.code ({ cls := "java/lang/Record", name := "<init>", desc := "()V" } : Jvm.MethodName) jdk_30_method_1_code (1 : Nat) (Option.none : Option Jvm.ClassFile.FieldType)).before args0 about1 = true := code_word (m := ⟨9, 0⟩) (meth := k9m0) (c := k9c0) (by decide +kernel) rfl rfl rfl (by decide +kernel)
set_option maxRecDepth 65536 in
theorem w_c9 : (Jvm.Cond.code ({ cls := "com/example/labwire/labwire/hl7/Delimiters", name := "isStandard", desc := "()Z" } : Jvm.MethodName) prog_106_method_10_code (1 : Nat) (Option.some Jvm.ClassFile.FieldType.boolean)).before args0 about1 = true := code_word (m := ⟨10, 1⟩) (meth := k10m1) (c := k10c1) (by decide +kernel) rfl rfl rfl (by decide +kernel)
set_option maxRecDepth 65536 in
theorem w_c10 : (Jvm.Cond.code ({ cls := "java/util/Optional", name := "empty", desc := "()Ljava/util/Optional;" } : Jvm.MethodName) jdk_32_method_1_code (1 : Nat) (Option.some (Jvm.ClassFile.FieldType.object "java/util/Optional"))).before args0 about1 = true := code_word (m := ⟨7, 0⟩) (meth := k7m0) (c := k7c0) (by decide +kernel) rfl rfl rfl (by decide +kernel)
set_option maxRecDepth 65536 in
theorem w_c11 : (Jvm.Cond.code ({ cls := "java/lang/Character", name := "<init>", desc := "(C)V" } : Jvm.MethodName) jdk_89_method_2_code (2 : Nat) (Option.none : Option Jvm.ClassFile.FieldType)).before args0 about1 = true := code_word (m := ⟨5, 0⟩) (meth := k5m0) (c := k5c0) (by decide +kernel) rfl rfl rfl (by decide +kernel)
def codes1 : List Jvm.Cond := [Jvm.Cond.code x code maxLocals ret, Jvm.Cond.code ({ cls := "com/example/labwire/labwire/hl7/DelimitersIsStandardPinLaw", name := "pick", desc := "(IC)C" } : Jvm.MethodName) method_2_code (2 : Nat) (Option.some Jvm.ClassFile.FieldType.char), Jvm.Cond.code ({ cls := "java/lang/Character", name := "valueOf", desc := "(C)Ljava/lang/Character;" } : Jvm.MethodName) jdk_89_method_3_code (1 : Nat) (Option.some (Jvm.ClassFile.FieldType.object "java/lang/Character")), Jvm.Cond.code ({ cls := "java/util/Optional", name := "of", desc := "(Ljava/lang/Object;)Ljava/util/Optional;" } : Jvm.MethodName) jdk_32_method_3_code (1 : Nat) (Option.some (Jvm.ClassFile.FieldType.object "java/util/Optional")), Jvm.Cond.code ({ cls := "java/util/Objects", name := "requireNonNull", desc := "(Ljava/lang/Object;)Ljava/lang/Object;" } : Jvm.MethodName) jdk_31_method_10_code (1 : Nat) (Option.some (Jvm.ClassFile.FieldType.object "java/lang/Object")), Jvm.Cond.code ({ cls := "java/util/Optional", name := "<init>", desc := "(Ljava/lang/Object;)V" } : Jvm.MethodName) jdk_32_method_2_code (2 : Nat) (Option.none : Option Jvm.ClassFile.FieldType), Jvm.Cond.code ({ cls := "java/lang/Object", name := "<init>", desc := "()V" } : Jvm.MethodName) object_method_1_code (1 : Nat) (Option.none : Option Jvm.ClassFile.FieldType), Jvm.Cond.code ({ cls := "com/example/labwire/labwire/hl7/Delimiters", name := "<init>", desc := "(CCCCCLjava/util/Optional;)V" } : Jvm.MethodName) prog_106_method_1_code (7 : Nat) (Option.none : Option Jvm.ClassFile.FieldType), Jvm.Cond.code ({ cls := "java/lang/Record", name := "<init>", desc := "()V" } : Jvm.MethodName) jdk_30_method_1_code (1 : Nat) (Option.none : Option Jvm.ClassFile.FieldType), Jvm.Cond.code ({ cls := "com/example/labwire/labwire/hl7/Delimiters", name := "isStandard", desc := "()Z" } : Jvm.MethodName) prog_106_method_10_code (1 : Nat) (Option.some Jvm.ClassFile.FieldType.boolean), Jvm.Cond.code ({ cls := "java/util/Optional", name := "empty", desc := "()Ljava/util/Optional;" } : Jvm.MethodName) jdk_32_method_1_code (1 : Nat) (Option.some (Jvm.ClassFile.FieldType.object "java/util/Optional")), Jvm.Cond.code ({ cls := "java/lang/Character", name := "<init>", desc := "(C)V" } : Jvm.MethodName) jdk_89_method_2_code (2 : Nat) (Option.none : Option Jvm.ClassFile.FieldType)]
set_option maxRecDepth 65536 in
theorem codes_eq : words1.filter isCode = codes1 := rfl
theorem w_codes : ∀ c ∈ words1.filter isCode, c.before args0 about1 = true := by
  rw [codes_eq]
  intro c hc
  simp only [codes1, List.mem_cons, List.not_mem_nil, or_false] at hc
  rcases hc with rfl | rfl | rfl | rfl | rfl | rfl | rfl | rfl | rfl | rfl | rfl | rfl
  · exact w_c0
  · exact w_c1
  · exact w_c2
  · exact w_c3
  · exact w_c4
  · exact w_c5
  · exact w_c6
  · exact w_c7
  · exact w_c8
  · exact w_c9
  · exact w_c10
  · exact w_c11
set_option maxRecDepth 65536 in
theorem w_t1 : (words1.take 24).all (fun c => isCode c || c.before args0 about1) = true := by decide +kernel
set_option maxRecDepth 65536 in
theorem w_t2 : ((words1.drop 24).take 24).all (fun c => isCode c || c.before args0 about1) = true := by decide +kernel
set_option maxRecDepth 65536 in
theorem w_t3 : (((words1.drop 24).drop 24).take 24).all (fun c => isCode c || c.before args0 about1) = true := by decide +kernel
set_option maxRecDepth 65536 in
theorem w_t4 : (((words1.drop 24).drop 24).drop 24).all (fun c => isCode c || c.before args0 about1) = true := by decide +kernel
theorem w_tables : (allAtoms (Jvm.Cond.code x code maxLocals ret :: tables_1)).before args0 about1 = true := by
  rw [allAtoms_all]
  show words1.all (fun c => c.before args0 about1) = true
  refine all_split ?_ w_codes
  rw [← List.take_append_drop 24 words1, List.all_append, w_t1, ← List.take_append_drop 24 (words1.drop 24), List.all_append, w_t2, ← List.take_append_drop 24 ((words1.drop 24).drop 24), List.all_append, w_t3, w_t4]
  rfl
set_option maxRecDepth 65536 in
theorem w_rest : rest_1_c.before args0 about1 = true := by decide +kernel
set_option maxRecDepth 65536 in
theorem w_case : (Jvm.Cond.and given_1 narrow_1).before args0 about1 = true := by decide +kernel
theorem w_applies : (headSpec (Jvm.Cond.code x code maxLocals ret :: tables_1) room_1).applies x e0.platform about1 = true :=
  (Spec.applies_iff w_frames).mpr ⟨w_running, w_runnable, w_alone, w_named, w_hears, w_ripe, w_room, w_tables⟩
theorem atStart : AtStart classFile x code maxLocals ret World_1 tables_1 room_1 Calls_1 rest_1 Pre_1 launch0 p0 e0 about1 theMethod args0 below0 :=
  ⟨lists_1, trivial, launch0.admits_env _ _ _, launch0.least_env, fairChoices_fair.cas, fairChoices_fair.clock, w_frames, w_args, w_heap, w_applies, trivial, w_rest, w_case⟩
end start1
theorem witness_1 : WitnessClaimed_1 := ⟨start1.p0, start1.e0, start1.about1, start1.theMethod, start1.args0, start1.below0, start1.atStart⟩
end Jvm.Pilot.@@N@@

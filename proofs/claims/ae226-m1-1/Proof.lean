import JvmDerived
import JvmDerived.Pilot.@@N@@Statement
import JvmDerived.Pilot.@@N@@Code
set_option linter.unusedVariables false
set_option linter.unusedSimpArgs false
namespace Jvm.WK
open Jvm Sem ClassFile Op Lib Jvm.Free Jvm.Stand Jvm.LawKit Jvm.RoadKit
/-- the fixed surroundings of a walk: program, launch, environment, first state, method, arguments, frames below, method record, code record -/
abbrev Cx := Program × Launch × Env × State × MethodId × Array Value × List Frame × Method × Code
/-- FROM HERE THE BODY RUNS TO ITS RETURN, AND WHAT IT LEAVES MEETS Q: h the heap here, pc, Ls, st the top frame; cl, sl: what was made so far; only cells from n0 on are written. -/
def WP (C : Cx) (Z : State) (code : ByteArray) (ml : Nat) (own : String) (rt : Option FieldType) (nm : String) (R : Room) (n0 : Nat) (Q : Option Value → Heap → Prop) (cl sl : Nat) (h : Heap) (pc : Nat) (Ls : Array Slot) (st : List Value) : Prop :=
  C.1.tables.exec = Jvm.exec → C.2.2.2.2.2.2.2.2.code = code → C.2.2.2.2.2.2.2.2.maxLocals = ml → C.2.2.2.1.vm.findClass own = some C.2.2.2.2.1.cls → Z.Warmed39 C.2.2.2.1.vm → C.2.2.2.2.2.2.2.1.sig.returnType = rt → C.2.2.2.2.2.2.2.1.locks = false → C.2.2.2.2.2.2.2.1.name = nm →
  ∀ (T : State) (locs : List Loc), Stand C.1 C.2.1 C.2.2.1 R C.2.2.2.1 C.2.2.2.2.1 C.2.2.2.2.2.1 C.2.2.2.2.2.2.1 C.2.2.2.2.2.2.2.1 C.2.2.2.2.2.2.2.2 T locs cl sl → T.heap = h → Fr n0 locs →
    ∃ (s₂ : State) (v : Option Value) (L : List Loc), Steps C.1.tables C.2.2.1 C.2.2.2.2.2.2.1 (T.setTop (mkF C.2.2.2.2.1 pc Ls st)) s₂ ∧ s₂.status = .running ∧ Ended s₂ C.2.2.2.2.2.2.1 (.returned v) ∧ Q v s₂.heap ∧ Fr n0 L ∧ FrameEnd C.2.2.2.1 (.returned v) s₂ L R.cells R.slots
/-- WHAT A METHOD DOES FROM THE HEAP h0 WITH THE ARGUMENTS a -/
def Does (l : Launch) (Z : State) (y : MethodName) (code : ByteArray) (ml : Nat) (rt : Option FieldType) (R : Room) (n0 : Nat) (as' : Array Value) (h0 : Heap) (Q : Option Value → Heap → Prop) : Prop :=
  ∀ ws : List Jvm.Cond, MetFree l y (head1 (Jvm.Cond.code y code ml rt :: ws) R) (fun a U => a = as' ∧ Z.Warmed39 U.vm ∧ U.heap = h0) (fun _ _ _ _ _ => True)
    (fun _ U o U' => ∃ v L, o = .returned v ∧ (Q v U'.heap ∧ Fr n0 L) ∧ FrameEnd U o U' L R.cells R.slots)
theorem Does.of_wp {l : Launch} {Z : State} {y : MethodName} {code : ByteArray} {ml : Nat} {rt : Option FieldType} {R : Room} {n0 : Nat} {as' : Array Value} {h0 : Heap} {Q : Option Value → Heap → Prop} (hpl : plainFor y = true) {Ls : Array Slot} (hef : ∀ m, entryFrame m as' ml = mkF m 0 Ls [])
    (hW : ∀ C : Cx, WP C Z code ml y.cls rt y.name R n0 Q 0 0 h0 0 Ls []) : Does l Z y code ml rt R n0 as' h0 Q := by
  intro ws
  refine MetFree.of_bodySF hpl hisR ?_
  intro p e s m args below meth c s₁ Bd hml0 hP hK
  obtain ⟨rfl, hZ, hh⟩ := hP
  have X0 : Stand p l e R s m args below meth c s₁ [] 0 0 := Stand.of_body Bd
  have e0 : s₁.heap = h0 := by rw [← hh, Bd.state]; rfl
  obtain ⟨s₂, v, L, h1, h2, h3, h4, h5, h6⟩ := hW (p, l, e, s, m, args, below, meth, c) Bd.exec Bd.bytes hml0 (findClass_of_methodNamed Bd.named) hZ Bd.returns Bd.notSynchronized (name_of_methodNamed Bd.named Bd.method).1 s₁ [] X0 e0 (Fr.nil n0)
  exact ⟨s₂, _, castTop (hef m) h1, h2, h3, v, L, rfl, ⟨h4, h5⟩, h6⟩
section Rules
variable {C : Cx} {Z : State} {code : ByteArray} {ml : Nat} {own : String} {rt : Option FieldType} {nm : String} {R : Room} {n0 : Nat} {Q : Option Value → Heap → Prop} {cl sl : Nat} {h : Heap} {pc pc' : Nat} {Ls Ls' : Array Slot} {st st' : List Value} {a0 : Array Value}
theorem WP.step {cl' sl' : Nat} {h' : Heap} (f : ∀ {p : Program} {l : Launch} {e : Env} {s : State} {m : MethodId} {args : Array Value} {below : List Frame} {meth : Method} {c : Code} {T : State} {locs : List Loc}, Stand p l e R s m args below meth c T locs cl sl → p.tables.exec = Jvm.exec → c.code = code → c.maxLocals = ml → s.vm.findClass own = some m.cls → Z.Warmed39 s.vm → meth.name = nm → T.heap = h → Fr n0 locs →
      ∃ T' locs', Stand p l e R s m args below meth c T' locs' cl' sl' ∧ T'.heap = h' ∧ Fr n0 locs' ∧ ∀ t, Steps p.tables e below (T'.setTop (mkF m pc' Ls' st')) t → Steps p.tables e below (T.setTop (mkF m pc Ls st)) t)
    (hr : WP C Z code ml own rt nm R n0 Q cl' sl' h' pc' Ls' st') : WP C Z code ml own rt nm R n0 Q cl sl h pc Ls st := by
  intro k1 k2 k3 k4 k5 k6 k7 k8 T locs X e N
  obtain ⟨T', locs', X', e', N', k⟩ := f X k1 k2 k3 k4 k5 k8 e N
  obtain ⟨s₂, v, L, h1, h2⟩ := hr k1 k2 k3 k4 k5 k6 k7 k8 T' locs' X' e' N'
  exact ⟨s₂, v, L, k _ h1, h2⟩
theorem WP.pure (f : ∀ {p : Program} {l : Launch} {e : Env} {s : State} {m : MethodId} {args : Array Value} {below : List Frame} {meth : Method} {c : Code} {T : State} {locs : List Loc}, Stand p l e R s m args below meth c T locs cl sl → p.tables.exec = Jvm.exec → c.code = code → s.vm.findClass own = some m.cls → Z.Warmed39 s.vm → T.heap = h →
      ∀ t, Steps p.tables e below (T.setTop (mkF m pc' Ls' st')) t → Steps p.tables e below (T.setTop (mkF m pc Ls st)) t)
    (hr : WP C Z code ml own rt nm R n0 Q cl sl h pc' Ls' st') : WP C Z code ml own rt nm R n0 Q cl sl h pc Ls st :=
  WP.step (fun X hx hc _ ho hZ _ e N => ⟨_, _, X, e, N, f X hx hc ho hZ e⟩) hr
/-- the heap's name may be turned -/
theorem WP.cast {h' : Heap} (e : h = h') (hr : WP C Z code ml own rt nm R n0 Q cl sl h' pc Ls st) : WP C Z code ml own rt nm R n0 Q cl sl h pc Ls st := e ▸ hr
theorem WP.castS (e : st = st') (hr : WP C Z code ml own rt nm R n0 Q cl sl h pc Ls st') : WP C Z code ml own rt nm R n0 Q cl sl h pc Ls st := e ▸ hr
theorem WP.castL (e : Ls = Ls') (hr : WP C Z code ml own rt nm R n0 Q cl sl h pc Ls' st) : WP C Z code ml own rt nm R n0 Q cl sl h pc Ls st := e ▸ hr
theorem WP.iloadN {k : Fin 4} {v : Int32} (hd : decode code pc = .ok (.iload_n k, 1)) (hp : pc + 1 = pc') (hl : Ls[k.val]? = some (.val (.int v))) (hr : WP C Z code ml own rt nm R n0 Q cl sl h pc' Ls (.int v :: st)) : WP C Z code ml own rt nm R n0 Q cl sl h pc Ls st := by
  subst hp
  exact hr.pure fun X hx hby hown hZ eT t q => XS.iloadN X.here hx rfl (hb hby hd) hl q
theorem WP.iload {k : Nat} {v : Int32} (hd : decode code pc = .ok (.iload k, 2)) (hp : pc + 2 = pc') (hl : Ls[k]? = some (.val (.int v))) (hr : WP C Z code ml own rt nm R n0 Q cl sl h pc' Ls (.int v :: st)) : WP C Z code ml own rt nm R n0 Q cl sl h pc Ls st := by
  subst hp
  exact hr.pure fun X hx hby hown hZ eT t q => XS.iload X.here hx rfl (hb hby hd) hl q
theorem WP.lloadN {k : Fin 4} {v : Int64} (hd : decode code pc = .ok (.lload_n k, 1)) (hp : pc + 1 = pc') (hl : Ls[k.val]? = some (.val (.long v))) (hr : WP C Z code ml own rt nm R n0 Q cl sl h pc' Ls (.long v :: st)) : WP C Z code ml own rt nm R n0 Q cl sl h pc Ls st := by
  subst hp
  exact hr.pure fun X hx hby hown hZ eT t q => XS.lloadN X.here hx rfl (hb hby hd) hl q
theorem WP.lload {k : Nat} {v : Int64} (hd : decode code pc = .ok (.lload k, 2)) (hp : pc + 2 = pc') (hl : Ls[k]? = some (.val (.long v))) (hr : WP C Z code ml own rt nm R n0 Q cl sl h pc' Ls (.long v :: st)) : WP C Z code ml own rt nm R n0 Q cl sl h pc Ls st := by
  subst hp
  exact hr.pure fun X hx hby hown hZ eT t q => XS.lload X.here hx rfl (hb hby hd) hl q
theorem WP.dloadN {k : Fin 4} {v : UInt64} (hd : decode code pc = .ok (.dload_n k, 1)) (hp : pc + 1 = pc') (hl : Ls[k.val]? = some (.val (.double v))) (hr : WP C Z code ml own rt nm R n0 Q cl sl h pc' Ls (.double v :: st)) : WP C Z code ml own rt nm R n0 Q cl sl h pc Ls st := by
  subst hp
  exact hr.pure fun X hx hby hown hZ eT t q => XS.dloadN X.here hx rfl (hb hby hd) hl q
theorem WP.dload {k : Nat} {v : UInt64} (hd : decode code pc = .ok (.dload k, 2)) (hp : pc + 2 = pc') (hl : Ls[k]? = some (.val (.double v))) (hr : WP C Z code ml own rt nm R n0 Q cl sl h pc' Ls (.double v :: st)) : WP C Z code ml own rt nm R n0 Q cl sl h pc Ls st := by
  subst hp
  exact hr.pure fun X hx hby hown hZ eT t q => XS.dload X.here hx rfl (hb hby hd) hl q
theorem WP.aloadN {k : Fin 4} {v : Value} (hd : decode code pc = .ok (.aload_n k, 1)) (hp : pc + 1 = pc') (hl : Ls[k.val]? = some (.val v)) (hv : v.isRef = true) (hr : WP C Z code ml own rt nm R n0 Q cl sl h pc' Ls (v :: st)) : WP C Z code ml own rt nm R n0 Q cl sl h pc Ls st := by
  subst hp
  exact hr.pure fun X hx hby hown hZ eT t q => XS.aloadN X.here hx rfl (hb hby hd) hl hv q
theorem WP.aload {k : Nat} {v : Value} (hd : decode code pc = .ok (.aload k, 2)) (hp : pc + 2 = pc') (hl : Ls[k]? = some (.val v)) (hv : v.isRef = true) (hr : WP C Z code ml own rt nm R n0 Q cl sl h pc' Ls (v :: st)) : WP C Z code ml own rt nm R n0 Q cl sl h pc Ls st := by
  subst hp
  exact hr.pure fun X hx hby hown hZ eT t q => XS.aload X.here hx rfl (hb hby hd) hl hv q
theorem WP.istoreN {k : Fin 4} {v : Int32} (hd : decode code pc = .ok (.istore_n k, 1)) (hp : pc + 1 = pc') (hl : storeLocals Ls k.val (.int v) = some Ls') (hr : WP C Z code ml own rt nm R n0 Q cl sl h pc' Ls' st) : WP C Z code ml own rt nm R n0 Q cl sl h pc Ls (.int v :: st) := by
  subst hp
  exact hr.pure fun X hx hby hown hZ eT t q => XS.istoreN X.here hx rfl (hb hby hd) rfl hl q
theorem WP.istore {k : Nat} {v : Int32} (hd : decode code pc = .ok (.istore k, 2)) (hp : pc + 2 = pc') (hl : storeLocals Ls k (.int v) = some Ls') (hr : WP C Z code ml own rt nm R n0 Q cl sl h pc' Ls' st) : WP C Z code ml own rt nm R n0 Q cl sl h pc Ls (.int v :: st) := by
  subst hp
  exact hr.pure fun X hx hby hown hZ eT t q => XS.istore X.here hx rfl (hb hby hd) rfl hl q
theorem WP.lstoreN {k : Fin 4} {v : Int64} (hd : decode code pc = .ok (.lstore_n k, 1)) (hp : pc + 1 = pc') (hl : storeLocals Ls k.val (.long v) = some Ls') (hr : WP C Z code ml own rt nm R n0 Q cl sl h pc' Ls' st) : WP C Z code ml own rt nm R n0 Q cl sl h pc Ls (.long v :: st) := by
  subst hp
  exact hr.pure fun X hx hby hown hZ eT t q => XS.lstoreN X.here hx rfl (hb hby hd) rfl hl q
theorem WP.lstore {k : Nat} {v : Int64} (hd : decode code pc = .ok (.lstore k, 2)) (hp : pc + 2 = pc') (hl : storeLocals Ls k (.long v) = some Ls') (hr : WP C Z code ml own rt nm R n0 Q cl sl h pc' Ls' st) : WP C Z code ml own rt nm R n0 Q cl sl h pc Ls (.long v :: st) := by
  subst hp
  exact hr.pure fun X hx hby hown hZ eT t q => XS.lstore X.here hx rfl (hb hby hd) rfl hl q
theorem WP.dstoreN {k : Fin 4} {v : UInt64} (hd : decode code pc = .ok (.dstore_n k, 1)) (hp : pc + 1 = pc') (hl : storeLocals Ls k.val (.double v) = some Ls') (hr : WP C Z code ml own rt nm R n0 Q cl sl h pc' Ls' st) : WP C Z code ml own rt nm R n0 Q cl sl h pc Ls (.double v :: st) := by
  subst hp
  exact hr.pure fun X hx hby hown hZ eT t q => XS.dstoreN X.here hx rfl (hb hby hd) rfl hl q
theorem WP.dstore {k : Nat} {v : UInt64} (hd : decode code pc = .ok (.dstore k, 2)) (hp : pc + 2 = pc') (hl : storeLocals Ls k (.double v) = some Ls') (hr : WP C Z code ml own rt nm R n0 Q cl sl h pc' Ls' st) : WP C Z code ml own rt nm R n0 Q cl sl h pc Ls (.double v :: st) := by
  subst hp
  exact hr.pure fun X hx hby hown hZ eT t q => XS.dstore X.here hx rfl (hb hby hd) rfl hl q
theorem WP.astoreN {k : Fin 4} {v : Value} (hd : decode code pc = .ok (.astore_n k, 1)) (hp : pc + 1 = pc') (hv : v.isRef = true) (hl : storeLocals Ls k.val v = some Ls') (hr : WP C Z code ml own rt nm R n0 Q cl sl h pc' Ls' st) : WP C Z code ml own rt nm R n0 Q cl sl h pc Ls (v :: st) := by
  subst hp
  exact hr.pure fun X hx hby hown hZ eT t q => XS.astoreN X.here hx rfl (hb hby hd) rfl hv hl q
theorem WP.astore {k : Nat} {v : Value} (hd : decode code pc = .ok (.astore k, 2)) (hp : pc + 2 = pc') (hv : v.isRef = true) (hl : storeLocals Ls k v = some Ls') (hr : WP C Z code ml own rt nm R n0 Q cl sl h pc' Ls' st) : WP C Z code ml own rt nm R n0 Q cl sl h pc Ls (v :: st) := by
  subst hp
  exact hr.pure fun X hx hby hown hZ eT t q => XS.astore X.here hx rfl (hb hby hd) rfl hv hl q
theorem WP.iconst {i : Int} {z : Int32} (hd : decode code pc = .ok (.iconst i, 1)) (hp : pc + 1 = pc') (hz : Int32.ofInt i = z) (hr : WP C Z code ml own rt nm R n0 Q cl sl h pc' Ls (.int z :: st)) : WP C Z code ml own rt nm R n0 Q cl sl h pc Ls st := by
  subst hp
  subst hz
  exact hr.pure fun X hx hby hown hZ eT t q => XS.iconst X.here hx rfl (hb hby hd) q
theorem WP.bipush {i : Int} {z : Int32} (hd : decode code pc = .ok (.bipush i, 2)) (hp : pc + 2 = pc') (hz : (Int8.ofInt i).toInt32 = z) (hr : WP C Z code ml own rt nm R n0 Q cl sl h pc' Ls (.int z :: st)) : WP C Z code ml own rt nm R n0 Q cl sl h pc Ls st := by
  subst hp
  subst hz
  exact hr.pure fun X hx hby hown hZ eT t q => XS.bipush X.here hx rfl (hb hby hd) q
theorem WP.sipush {i : Int} {z : Int32} (hd : decode code pc = .ok (.sipush i, 3)) (hp : pc + 3 = pc') (hz : (Int16.ofInt i).toInt32 = z) (hr : WP C Z code ml own rt nm R n0 Q cl sl h pc' Ls (.int z :: st)) : WP C Z code ml own rt nm R n0 Q cl sl h pc Ls st := by
  subst hp
  subst hz
  exact hr.pure fun X hx hby hown hZ eT t q => XS.sipush X.here hx rfl (hb hby hd) q
theorem WP.lconst {k : Fin 2} {z : Int64} (hd : decode code pc = .ok (.lconst k, 1)) (hp : pc + 1 = pc') (hz : Int64.ofNat k = z) (hr : WP C Z code ml own rt nm R n0 Q cl sl h pc' Ls (.long z :: st)) : WP C Z code ml own rt nm R n0 Q cl sl h pc Ls st := by
  subst hp
  subst hz
  exact hr.pure fun X hx hby hown hZ eT t q => XS.lconst X.here hx rfl (hb hby hd) q
theorem WP.aconstNull  (hd : decode code pc = .ok (.aconst_null, 1)) (hp : pc + 1 = pc') (hr : WP C Z code ml own rt nm R n0 Q cl sl h pc' Ls (.null :: st)) : WP C Z code ml own rt nm R n0 Q cl sl h pc Ls st := by
  subst hp
  exact hr.pure fun X hx hby hown hZ eT t q => XS.aconstNull X.here hx rfl (hb hby hd) q
theorem WP.ldcI {i : Nat} {v : Int32} (hd : decode code pc = .ok (.ldc i, 2)) (hp : pc + 2 = pc') (w : (Jvm.Cond.constant own i v).before a0 Z = true) (hr : WP C Z code ml own rt nm R n0 Q cl sl h pc' Ls (.int v :: st)) : WP C Z code ml own rt nm R n0 Q cl sl h pc Ls st := by
  subst hp
  exact hr.pure fun X hx hby hown hZ eT t q => X.ldcInt hx hown (mvT hZ w) (g := mkF _ pc Ls st) rfl (hb hby hd) t q
theorem WP.ldcWI {i : Nat} {v : Int32} (hd : decode code pc = .ok (.ldc_w i, 3)) (hp : pc + 3 = pc') (w : (Jvm.Cond.constant own i v).before a0 Z = true) (hr : WP C Z code ml own rt nm R n0 Q cl sl h pc' Ls (.int v :: st)) : WP C Z code ml own rt nm R n0 Q cl sl h pc Ls st := by
  subst hp
  exact hr.pure fun X hx hby hown hZ eT t q => X.ldcWInt hx hown (mvT hZ w) (g := mkF _ pc Ls st) rfl (hb hby hd) t q
theorem WP.ldc2J {i : Nat} {v : Int64} (hd : decode code pc = .ok (.ldc2_w i, 3)) (hp : pc + 3 = pc') (w : (Jvm.Cond.constantLong own i v).before a0 Z = true) (hr : WP C Z code ml own rt nm R n0 Q cl sl h pc' Ls (.long v :: st)) : WP C Z code ml own rt nm R n0 Q cl sl h pc Ls st := by
  subst hp
  exact hr.pure fun X hx hby hown hZ eT t q => X.ldc2Long hx hown (mvT hZ w) (g := mkF _ pc Ls st) rfl (hb hby hd) t q
theorem WP.iadd {x y : Int32} (hd : decode code pc = .ok (.iadd, 1)) (hp : pc + 1 = pc') (hr : WP C Z code ml own rt nm R n0 Q cl sl h pc' Ls (.int (x + y) :: st)) : WP C Z code ml own rt nm R n0 Q cl sl h pc Ls (.int y :: .int x :: st) := by
  subst hp
  exact hr.pure fun X hx hby hown hZ eT t q => XS.iadd X.here hx rfl (hb hby hd) rfl q
theorem WP.isub {x y : Int32} (hd : decode code pc = .ok (.isub, 1)) (hp : pc + 1 = pc') (hr : WP C Z code ml own rt nm R n0 Q cl sl h pc' Ls (.int (x - y) :: st)) : WP C Z code ml own rt nm R n0 Q cl sl h pc Ls (.int y :: .int x :: st) := by
  subst hp
  exact hr.pure fun X hx hby hown hZ eT t q => XS.isub X.here hx rfl (hb hby hd) rfl q
theorem WP.imul {x y : Int32} (hd : decode code pc = .ok (.imul, 1)) (hp : pc + 1 = pc') (hr : WP C Z code ml own rt nm R n0 Q cl sl h pc' Ls (.int (x * y) :: st)) : WP C Z code ml own rt nm R n0 Q cl sl h pc Ls (.int y :: .int x :: st) := by
  subst hp
  exact hr.pure fun X hx hby hown hZ eT t q => XS.imul X.here hx rfl (hb hby hd) rfl q
theorem WP.iand {x y : Int32} (hd : decode code pc = .ok (.iand, 1)) (hp : pc + 1 = pc') (hr : WP C Z code ml own rt nm R n0 Q cl sl h pc' Ls (.int (x &&& y) :: st)) : WP C Z code ml own rt nm R n0 Q cl sl h pc Ls (.int y :: .int x :: st) := by
  subst hp
  exact hr.pure fun X hx hby hown hZ eT t q => XS.iand X.here hx rfl (hb hby hd) rfl q
theorem WP.ior {x y : Int32} (hd : decode code pc = .ok (.ior, 1)) (hp : pc + 1 = pc') (hr : WP C Z code ml own rt nm R n0 Q cl sl h pc' Ls (.int (x ||| y) :: st)) : WP C Z code ml own rt nm R n0 Q cl sl h pc Ls (.int y :: .int x :: st) := by
  subst hp
  exact hr.pure fun X hx hby hown hZ eT t q => XS.ior X.here hx rfl (hb hby hd) rfl q
theorem WP.ixor {x y : Int32} (hd : decode code pc = .ok (.ixor, 1)) (hp : pc + 1 = pc') (hr : WP C Z code ml own rt nm R n0 Q cl sl h pc' Ls (.int (x ^^^ y) :: st)) : WP C Z code ml own rt nm R n0 Q cl sl h pc Ls (.int y :: .int x :: st) := by
  subst hp
  exact hr.pure fun X hx hby hown hZ eT t q => XS.ixor X.here hx rfl (hb hby hd) rfl q
theorem WP.ishl {x y : Int32} (hd : decode code pc = .ok (.ishl, 1)) (hp : pc + 1 = pc') (hr : WP C Z code ml own rt nm R n0 Q cl sl h pc' Ls (.int (x <<< (y &&& 31)) :: st)) : WP C Z code ml own rt nm R n0 Q cl sl h pc Ls (.int y :: .int x :: st) := by
  subst hp
  exact hr.pure fun X hx hby hown hZ eT t q => XS.ishl X.here hx rfl (hb hby hd) rfl q
theorem WP.ishr {x y : Int32} (hd : decode code pc = .ok (.ishr, 1)) (hp : pc + 1 = pc') (hr : WP C Z code ml own rt nm R n0 Q cl sl h pc' Ls (.int (x >>> (y &&& 31)) :: st)) : WP C Z code ml own rt nm R n0 Q cl sl h pc Ls (.int y :: .int x :: st) := by
  subst hp
  exact hr.pure fun X hx hby hown hZ eT t q => XS.ishr X.here hx rfl (hb hby hd) rfl q
theorem WP.iushr {x y : Int32} (hd : decode code pc = .ok (.iushr, 1)) (hp : pc + 1 = pc') (hr : WP C Z code ml own rt nm R n0 Q cl sl h pc' Ls (.int ((x.toUInt32 >>> (y &&& 31).toUInt32).toInt32) :: st)) : WP C Z code ml own rt nm R n0 Q cl sl h pc Ls (.int y :: .int x :: st) := by
  subst hp
  exact hr.pure fun X hx hby hown hZ eT t q => XS.iushr X.here hx rfl (hb hby hd) rfl q
theorem WP.ladd {x y : Int64} (hd : decode code pc = .ok (.ladd, 1)) (hp : pc + 1 = pc') (hr : WP C Z code ml own rt nm R n0 Q cl sl h pc' Ls (.long (x + y) :: st)) : WP C Z code ml own rt nm R n0 Q cl sl h pc Ls (.long y :: .long x :: st) := by
  subst hp
  exact hr.pure fun X hx hby hown hZ eT t q => XS.ladd X.here hx rfl (hb hby hd) rfl q
theorem WP.lsub {x y : Int64} (hd : decode code pc = .ok (.lsub, 1)) (hp : pc + 1 = pc') (hr : WP C Z code ml own rt nm R n0 Q cl sl h pc' Ls (.long (x - y) :: st)) : WP C Z code ml own rt nm R n0 Q cl sl h pc Ls (.long y :: .long x :: st) := by
  subst hp
  exact hr.pure fun X hx hby hown hZ eT t q => XS.lsub X.here hx rfl (hb hby hd) rfl q
theorem WP.lmul {x y : Int64} (hd : decode code pc = .ok (.lmul, 1)) (hp : pc + 1 = pc') (hr : WP C Z code ml own rt nm R n0 Q cl sl h pc' Ls (.long (x * y) :: st)) : WP C Z code ml own rt nm R n0 Q cl sl h pc Ls (.long y :: .long x :: st) := by
  subst hp
  exact hr.pure fun X hx hby hown hZ eT t q => XS.lmul X.here hx rfl (hb hby hd) rfl q
theorem WP.land {x y : Int64} (hd : decode code pc = .ok (.land, 1)) (hp : pc + 1 = pc') (hr : WP C Z code ml own rt nm R n0 Q cl sl h pc' Ls (.long (x &&& y) :: st)) : WP C Z code ml own rt nm R n0 Q cl sl h pc Ls (.long y :: .long x :: st) := by
  subst hp
  exact hr.pure fun X hx hby hown hZ eT t q => XS.land X.here hx rfl (hb hby hd) rfl q
theorem WP.lor {x y : Int64} (hd : decode code pc = .ok (.lor, 1)) (hp : pc + 1 = pc') (hr : WP C Z code ml own rt nm R n0 Q cl sl h pc' Ls (.long (x ||| y) :: st)) : WP C Z code ml own rt nm R n0 Q cl sl h pc Ls (.long y :: .long x :: st) := by
  subst hp
  exact hr.pure fun X hx hby hown hZ eT t q => XS.lor X.here hx rfl (hb hby hd) rfl q
theorem WP.lxor {x y : Int64} (hd : decode code pc = .ok (.lxor, 1)) (hp : pc + 1 = pc') (hr : WP C Z code ml own rt nm R n0 Q cl sl h pc' Ls (.long (x ^^^ y) :: st)) : WP C Z code ml own rt nm R n0 Q cl sl h pc Ls (.long y :: .long x :: st) := by
  subst hp
  exact hr.pure fun X hx hby hown hZ eT t q => XS.lxor X.here hx rfl (hb hby hd) rfl q
theorem WP.lshl {x : Int64} {y : Int32} (hd : decode code pc = .ok (.lshl, 1)) (hp : pc + 1 = pc') (hr : WP C Z code ml own rt nm R n0 Q cl sl h pc' Ls (.long (x <<< (y &&& 0x3f).toInt64) :: st)) : WP C Z code ml own rt nm R n0 Q cl sl h pc Ls (.int y :: .long x :: st) := by
  subst hp
  exact hr.pure fun X hx hby hown hZ eT t q => XS.lshl X.here hx rfl (hb hby hd) rfl q
theorem WP.lshr {x : Int64} {y : Int32} (hd : decode code pc = .ok (.lshr, 1)) (hp : pc + 1 = pc') (hr : WP C Z code ml own rt nm R n0 Q cl sl h pc' Ls (.long (x >>> (y &&& 0x3f).toInt64) :: st)) : WP C Z code ml own rt nm R n0 Q cl sl h pc Ls (.int y :: .long x :: st) := by
  subst hp
  exact hr.pure fun X hx hby hown hZ eT t q => XS.lshr X.here hx rfl (hb hby hd) rfl q
theorem WP.lushr {x : Int64} {y : Int32} (hd : decode code pc = .ok (.lushr, 1)) (hp : pc + 1 = pc') (hr : WP C Z code ml own rt nm R n0 Q cl sl h pc' Ls (.long ((x.toUInt64 >>> (y &&& 0x3f).toInt64.toUInt64).toInt64) :: st)) : WP C Z code ml own rt nm R n0 Q cl sl h pc Ls (.int y :: .long x :: st) := by
  subst hp
  exact hr.pure fun X hx hby hown hZ eT t q => XS.lushr X.here hx rfl (hb hby hd) rfl q
theorem WP.idiv {x y : Int32} (hd : decode code pc = .ok (.idiv, 1)) (hp : pc + 1 = pc') (hy : y ≠ 0) (hr : WP C Z code ml own rt nm R n0 Q cl sl h pc' Ls (.int (x / y) :: st)) : WP C Z code ml own rt nm R n0 Q cl sl h pc Ls (.int y :: .int x :: st) := by
  subst hp
  exact hr.pure fun X hx hby hown hZ eT t q => XS.idiv X.here hx rfl (hb hby hd) rfl hy q
theorem WP.irem {x y : Int32} (hd : decode code pc = .ok (.irem, 1)) (hp : pc + 1 = pc') (hy : y ≠ 0) (hr : WP C Z code ml own rt nm R n0 Q cl sl h pc' Ls (.int (x % y) :: st)) : WP C Z code ml own rt nm R n0 Q cl sl h pc Ls (.int y :: .int x :: st) := by
  subst hp
  exact hr.pure fun X hx hby hown hZ eT t q => iremM X hx rfl (hb hby hd) rfl hy q
theorem WP.ldiv {x y : Int64} (hd : decode code pc = .ok (.ldiv, 1)) (hp : pc + 1 = pc') (hy : y ≠ 0) (hr : WP C Z code ml own rt nm R n0 Q cl sl h pc' Ls (.long (x / y) :: st)) : WP C Z code ml own rt nm R n0 Q cl sl h pc Ls (.long y :: .long x :: st) := by
  subst hp
  exact hr.pure fun X hx hby hown hZ eT t q => XS.ldiv X.here hx rfl (hb hby hd) rfl hy q
theorem WP.lrem {x y : Int64} (hd : decode code pc = .ok (.lrem, 1)) (hp : pc + 1 = pc') (hy : y ≠ 0) (hr : WP C Z code ml own rt nm R n0 Q cl sl h pc' Ls (.long (x % y) :: st)) : WP C Z code ml own rt nm R n0 Q cl sl h pc Ls (.long y :: .long x :: st) := by
  subst hp
  exact hr.pure fun X hx hby hown hZ eT t q => XS.lrem X.here hx rfl (hb hby hd) rfl hy (by rw [lrem_mod]; exact q)
theorem WP.ineg {x : Int32} (hd : decode code pc = .ok (.ineg, 1)) (hp : pc + 1 = pc') (hr : WP C Z code ml own rt nm R n0 Q cl sl h pc' Ls (.int (-x) :: st)) : WP C Z code ml own rt nm R n0 Q cl sl h pc Ls (.int x :: st) := by
  subst hp
  exact hr.pure fun X hx hby hown hZ eT t q => XS.ineg X.here hx rfl (hb hby hd) rfl q
theorem WP.lneg {x : Int64} (hd : decode code pc = .ok (.lneg, 1)) (hp : pc + 1 = pc') (hr : WP C Z code ml own rt nm R n0 Q cl sl h pc' Ls (.long (-x) :: st)) : WP C Z code ml own rt nm R n0 Q cl sl h pc Ls (.long x :: st) := by
  subst hp
  exact hr.pure fun X hx hby hown hZ eT t q => XS.lneg X.here hx rfl (hb hby hd) rfl q
theorem WP.i2l {x : Int32} (hd : decode code pc = .ok (.i2l, 1)) (hp : pc + 1 = pc') (hr : WP C Z code ml own rt nm R n0 Q cl sl h pc' Ls (.long (x.toInt64) :: st)) : WP C Z code ml own rt nm R n0 Q cl sl h pc Ls (.int x :: st) := by
  subst hp
  exact hr.pure fun X hx hby hown hZ eT t q => XS.i2l X.here hx rfl (hb hby hd) rfl q
theorem WP.l2i {x : Int64} (hd : decode code pc = .ok (.l2i, 1)) (hp : pc + 1 = pc') (hr : WP C Z code ml own rt nm R n0 Q cl sl h pc' Ls (.int (x.toInt32) :: st)) : WP C Z code ml own rt nm R n0 Q cl sl h pc Ls (.long x :: st) := by
  subst hp
  exact hr.pure fun X hx hby hown hZ eT t q => XS.l2i X.here hx rfl (hb hby hd) rfl q
theorem WP.i2b {x : Int32} (hd : decode code pc = .ok (.i2b, 1)) (hp : pc + 1 = pc') (hr : WP C Z code ml own rt nm R n0 Q cl sl h pc' Ls (.int (x.toInt8.toInt32) :: st)) : WP C Z code ml own rt nm R n0 Q cl sl h pc Ls (.int x :: st) := by
  subst hp
  exact hr.pure fun X hx hby hown hZ eT t q => XS.i2b X.here hx rfl (hb hby hd) rfl q
theorem WP.i2c {x : Int32} (hd : decode code pc = .ok (.i2c, 1)) (hp : pc + 1 = pc') (hr : WP C Z code ml own rt nm R n0 Q cl sl h pc' Ls (.int (x.toUInt32.toUInt16.toUInt32.toInt32) :: st)) : WP C Z code ml own rt nm R n0 Q cl sl h pc Ls (.int x :: st) := by
  subst hp
  exact hr.pure fun X hx hby hown hZ eT t q => XS.i2c X.here hx rfl (hb hby hd) rfl q
theorem WP.i2s {x : Int32} (hd : decode code pc = .ok (.i2s, 1)) (hp : pc + 1 = pc') (hr : WP C Z code ml own rt nm R n0 Q cl sl h pc' Ls (.int (x.toInt16.toInt32) :: st)) : WP C Z code ml own rt nm R n0 Q cl sl h pc Ls (.int x :: st) := by
  subst hp
  exact hr.pure fun X hx hby hown hZ eT t q => XS.i2s X.here hx rfl (hb hby hd) rfl q
theorem WP.dup {x : Value} (hd : decode code pc = .ok (.dup, 1)) (hp : pc + 1 = pc') (hc : x.category = 1) (hr : WP C Z code ml own rt nm R n0 Q cl sl h pc' Ls (x :: x :: st)) : WP C Z code ml own rt nm R n0 Q cl sl h pc Ls (x :: st) := by
  subst hp
  exact hr.pure fun X hx hby hown hZ eT t q => XS.dup X.here hx rfl (hb hby hd) rfl hc q
theorem WP.pop {x : Value} (hd : decode code pc = .ok (.pop, 1)) (hp : pc + 1 = pc') (hc : x.category = 1) (hr : WP C Z code ml own rt nm R n0 Q cl sl h pc' Ls st) : WP C Z code ml own rt nm R n0 Q cl sl h pc Ls (x :: st) := by
  subst hp
  exact hr.pure fun X hx hby hown hZ eT t q => XS.pop X.here hx rfl (hb hby hd) rfl hc q
theorem WP.dupX1 {x y : Value} (hd : decode code pc = .ok (.dup_x1, 1)) (hp : pc + 1 = pc') (hc : x.category = 1) (hc' : y.category = 1) (hr : WP C Z code ml own rt nm R n0 Q cl sl h pc' Ls (x :: y :: x :: st)) : WP C Z code ml own rt nm R n0 Q cl sl h pc Ls (x :: y :: st) := by
  subst hp
  exact hr.pure fun X hx hby hown hZ eT t q => XS.dupX1 X.here hx rfl (hb hby hd) rfl hc hc' q
theorem WP.dup2 {x y : Value} (hd : decode code pc = .ok (.dup2, 1)) (hp : pc + 1 = pc') (hc : x.category = 1) (hc' : y.category = 1) (hr : WP C Z code ml own rt nm R n0 Q cl sl h pc' Ls (x :: y :: x :: y :: st)) : WP C Z code ml own rt nm R n0 Q cl sl h pc Ls (x :: y :: st) := by
  subst hp
  exact hr.pure fun X hx hby hown hZ eT t q => Jvm.Free.XT.dup2 X.here hx rfl (hb hby hd) rfl hc hc' q
theorem WP.dup2L {x : Int64} (hd : decode code pc = .ok (.dup2, 1)) (hp : pc + 1 = pc') (hr : WP C Z code ml own rt nm R n0 Q cl sl h pc' Ls (.long x :: .long x :: st)) : WP C Z code ml own rt nm R n0 Q cl sl h pc Ls (.long x :: st) := by
  subst hp
  exact hr.pure fun X hx hby hown hZ eT t q => Jvm.Free.XT.dup2L X.here hx rfl (hb hby hd) rfl q
theorem WP.iinc {k : Nat} {i : Int} {x z : Int32} (hd : decode code pc = .ok (.iinc k i, 3)) (hp : pc + 3 = pc') (hl : Ls[k]? = some (.val (.int x))) (hz : x + Int32.ofInt i = z) (hl' : storeLocals Ls k (.int z) = some Ls') (hr : WP C Z code ml own rt nm R n0 Q cl sl h pc' Ls' st) : WP C Z code ml own rt nm R n0 Q cl sl h pc Ls st := by
  subst hp
  subst hz
  exact hr.pure fun X hx hby hown hZ eT t q => XS.iinc X.here hx rfl (hb hby hd) hl hl' q
theorem WP.ldc2D {i : Nat} {v : UInt64} (hd : decode code pc = .ok (.ldc2_w i, 3)) (hp : pc + 3 = pc') (w : (Jvm.Cond.constantDouble own i v).before a0 Z = true) (hr : WP C Z code ml own rt nm R n0 Q cl sl h pc' Ls (.double v :: st)) : WP C Z code ml own rt nm R n0 Q cl sl h pc Ls st := by
  subst hp
  exact hr.pure fun X hx hby hown hZ eT t q => X.ldc2DoubleC hx hown (mvT hZ w) (g := mkF _ pc Ls st) rfl (hb hby hd) t q
theorem WP.dconst0 {v : UInt64} (hd : decode code pc = .ok (.dconst 0, 1)) (hp : pc + 1 = pc') (hv : FP.dconst0 = v) (hr : WP C Z code ml own rt nm R n0 Q cl sl h pc' Ls (.double v :: st)) : WP C Z code ml own rt nm R n0 Q cl sl h pc Ls st := by
  subst hp
  exact hr.pure fun X hx hby hown hZ eT t q => XS.dconst0 X.here hx rfl (hb hby hd) hv q
theorem WP.dconst1 {v : UInt64} (hd : decode code pc = .ok (.dconst 1, 1)) (hp : pc + 1 = pc') (hv : FP.dconst1 = v) (hr : WP C Z code ml own rt nm R n0 Q cl sl h pc' Ls (.double v :: st)) : WP C Z code ml own rt nm R n0 Q cl sl h pc Ls st := by
  subst hp
  exact hr.pure fun X hx hby hown hZ eT t q => XS.dconst1 X.here hx rfl (hb hby hd) hv q
theorem WP.i2d {x : Int32} {v : UInt64} (hd : decode code pc = .ok (.i2d, 1)) (hp : pc + 1 = pc') (hv : FP.i2d x = v) (hr : WP C Z code ml own rt nm R n0 Q cl sl h pc' Ls (.double v :: st)) : WP C Z code ml own rt nm R n0 Q cl sl h pc Ls (.int x :: st) := by
  subst hp
  exact hr.pure fun X hx hby hown hZ eT t q => XS.i2dS X.here hx rfl (hb hby hd) rfl hv q
theorem WP.l2d {x : Int64} {v : UInt64} (hd : decode code pc = .ok (.l2d, 1)) (hp : pc + 1 = pc') (hv : FP.l2d x = v) (hr : WP C Z code ml own rt nm R n0 Q cl sl h pc' Ls (.double v :: st)) : WP C Z code ml own rt nm R n0 Q cl sl h pc Ls (.long x :: st) := by
  subst hp
  exact hr.pure fun X hx hby hown hZ eT t q => XS.l2dS X.here hx rfl (hb hby hd) rfl hv q
theorem WP.dcmp {o : CmpOp} {x y : UInt64} {v : Int32} (hd : decode code pc = .ok (.dcmp o, 1)) (hp : pc + 1 = pc') (hv : cmpValue (FP.dcmp x y) o = v) (hr : WP C Z code ml own rt nm R n0 Q cl sl h pc' Ls (.int v :: st)) : WP C Z code ml own rt nm R n0 Q cl sl h pc Ls (.double y :: .double x :: st) := by
  subst hp
  exact hr.pure fun X hx hby hown hZ eT t q => XS.dcmpS X.here hx rfl (hb hby hd) rfl hv q
theorem WP.dadd {x y v : UInt64} (hd : decode code pc = .ok (.dadd, 1)) (hp : pc + 1 = pc') (hn : Jvm.Free.Fl.NoNaN64 (FP.dadd x y)) (hv : FP.dadd x y = v) (hr : WP C Z code ml own rt nm R n0 Q cl sl h pc' Ls (.double v :: st)) : WP C Z code ml own rt nm R n0 Q cl sl h pc Ls (.double y :: .double x :: st) := by
  subst hp
  exact hr.pure fun X hx hby hown hZ eT t q => XS.daddS X.here hx rfl (hb hby hd) rfl hn hv q
theorem WP.dsub {x y v : UInt64} (hd : decode code pc = .ok (.dsub, 1)) (hp : pc + 1 = pc') (hn : Jvm.Free.Fl.NoNaN64 (FP.dsub x y)) (hv : FP.dsub x y = v) (hr : WP C Z code ml own rt nm R n0 Q cl sl h pc' Ls (.double v :: st)) : WP C Z code ml own rt nm R n0 Q cl sl h pc Ls (.double y :: .double x :: st) := by
  subst hp
  exact hr.pure fun X hx hby hown hZ eT t q => XS.dsubS X.here hx rfl (hb hby hd) rfl hn hv q
theorem WP.dmul {x y v : UInt64} (hd : decode code pc = .ok (.dmul, 1)) (hp : pc + 1 = pc') (hn : Jvm.Free.Fl.NoNaN64 (FP.dmul x y)) (hv : FP.dmul x y = v) (hr : WP C Z code ml own rt nm R n0 Q cl sl h pc' Ls (.double v :: st)) : WP C Z code ml own rt nm R n0 Q cl sl h pc Ls (.double y :: .double x :: st) := by
  subst hp
  exact hr.pure fun X hx hby hown hZ eT t q => XS.dmulS X.here hx rfl (hb hby hd) rfl hn hv q
theorem WP.ddiv {x y v : UInt64} (hd : decode code pc = .ok (.ddiv, 1)) (hp : pc + 1 = pc') (hn : Jvm.Free.Fl.NoNaN64 (FP.ddiv x y)) (hv : FP.ddiv x y = v) (hr : WP C Z code ml own rt nm R n0 Q cl sl h pc' Ls (.double v :: st)) : WP C Z code ml own rt nm R n0 Q cl sl h pc Ls (.double y :: .double x :: st) := by
  subst hp
  exact hr.pure fun X hx hby hown hZ eT t q => XS.ddivS X.here hx rfl (hb hby hd) rfl hn hv q
theorem WP.lcmp {x y : Int64} (hd : decode code pc = .ok (.lcmp, 1)) (hp : pc + 1 = pc') (hr : WP C Z code ml own rt nm R n0 Q cl sl h pc' Ls (.int (lcmpW x y) :: st)) : WP C Z code ml own rt nm R n0 Q cl sl h pc Ls (.long y :: .long x :: st) := by
  subst hp
  exact hr.pure fun X hx hby hown hZ eT t q => XS.lcmp X.here hx rfl (hb hby hd) rfl q
theorem WP.goto {o : Int} (hd : decode code pc = .ok (.goto o, 3)) (ho : 0 ≤ (pc : Int) + o) (hp : ((pc : Int) + o).toNat = pc') (hr : WP C Z code ml own rt nm R n0 Q cl sl h pc' Ls st) : WP C Z code ml own rt nm R n0 Q cl sl h pc Ls st :=
  hr.pure fun X hx hby hown hZ eT t q => XS.goto X.here hx rfl (pc0 := pc) rfl (hb hby hd) ho hp q
theorem WP.icmp {pc1 pc2 : Nat} {x y : Int32} {cd : ClassFile.Cond} {o : Int} (hd : decode code pc = .ok (.if_icmp cd o, 3)) (ho : 0 ≤ (pc : Int) + o) (hp : ((pc : Int) + o).toNat = pc1) (hp2 : pc + 3 = pc2) (hy : if_icmp.holds cd x y = true → WP C Z code ml own rt nm R n0 Q cl sl h pc1 Ls st) (hn : if_icmp.holds cd x y = false → WP C Z code ml own rt nm R n0 Q cl sl h pc2 Ls st) : WP C Z code ml own rt nm R n0 Q cl sl h pc Ls (.int y :: .int x :: st) := by
  subst hp2
  cases hq : if_icmp.holds cd x y with
  | true => exact (hy hq).pure fun X hx hby hown hZ eT t q => XS.icmpYes X.here hx rfl (pc0 := pc) rfl (hb hby hd) rfl hq ho hp q
  | false => exact (hn hq).pure fun X hx hby hown hZ eT t q => XS.icmpNo X.here hx rfl (hb hby hd) rfl hq q
theorem WP.icmp_lt {pc1 pc2 : Nat} {x y : Int32} {o : Int} (hd : decode code pc = .ok (.if_icmp .lt o, 3)) (ho : 0 ≤ (pc : Int) + o) (hp : ((pc : Int) + o).toNat = pc1) (hp2 : pc + 3 = pc2) (hy : x < y → WP C Z code ml own rt nm R n0 Q cl sl h pc1 Ls st) (hn : ¬ x < y → WP C Z code ml own rt nm R n0 Q cl sl h pc2 Ls st) : WP C Z code ml own rt nm R n0 Q cl sl h pc Ls (.int y :: .int x :: st) :=
  WP.icmp hd ho hp hp2 (fun hq => hy (Decidable.byContradiction fun k => by rw [(flt k).1] at hq; cases hq)) (fun hq => hn (fun k => by rw [(tlt k).1] at hq; cases hq))
theorem WP.icmp_ge {pc1 pc2 : Nat} {x y : Int32} {o : Int} (hd : decode code pc = .ok (.if_icmp .ge o, 3)) (ho : 0 ≤ (pc : Int) + o) (hp : ((pc : Int) + o).toNat = pc1) (hp2 : pc + 3 = pc2) (hy : ¬ x < y → WP C Z code ml own rt nm R n0 Q cl sl h pc1 Ls st) (hn : x < y → WP C Z code ml own rt nm R n0 Q cl sl h pc2 Ls st) : WP C Z code ml own rt nm R n0 Q cl sl h pc Ls (.int y :: .int x :: st) :=
  WP.icmp hd ho hp hp2 (fun hq => hy (fun k => by rw [(tlt k).2.1] at hq; cases hq)) (fun hq => hn (Decidable.byContradiction fun k => by rw [(flt k).2.1] at hq; cases hq))
theorem WP.icmp_gt {pc1 pc2 : Nat} {x y : Int32} {o : Int} (hd : decode code pc = .ok (.if_icmp .gt o, 3)) (ho : 0 ≤ (pc : Int) + o) (hp : ((pc : Int) + o).toNat = pc1) (hp2 : pc + 3 = pc2) (hy : y < x → WP C Z code ml own rt nm R n0 Q cl sl h pc1 Ls st) (hn : ¬ y < x → WP C Z code ml own rt nm R n0 Q cl sl h pc2 Ls st) : WP C Z code ml own rt nm R n0 Q cl sl h pc Ls (.int y :: .int x :: st) :=
  WP.icmp hd ho hp hp2 (fun hq => hy (Decidable.byContradiction fun k => by rw [(flt k).2.2.1] at hq; cases hq)) (fun hq => hn (fun k => by rw [(tlt k).2.2.1] at hq; cases hq))
theorem WP.icmp_le {pc1 pc2 : Nat} {x y : Int32} {o : Int} (hd : decode code pc = .ok (.if_icmp .le o, 3)) (ho : 0 ≤ (pc : Int) + o) (hp : ((pc : Int) + o).toNat = pc1) (hp2 : pc + 3 = pc2) (hy : ¬ y < x → WP C Z code ml own rt nm R n0 Q cl sl h pc1 Ls st) (hn : y < x → WP C Z code ml own rt nm R n0 Q cl sl h pc2 Ls st) : WP C Z code ml own rt nm R n0 Q cl sl h pc Ls (.int y :: .int x :: st) :=
  WP.icmp hd ho hp hp2 (fun hq => hy (fun k => by rw [(tlt k).2.2.2] at hq; cases hq)) (fun hq => hn (Decidable.byContradiction fun k => by rw [(flt k).2.2.2] at hq; cases hq))
theorem WP.icmp_eq {pc1 pc2 : Nat} {x y : Int32} {o : Int} (hd : decode code pc = .ok (.if_icmp .eq o, 3)) (ho : 0 ≤ (pc : Int) + o) (hp : ((pc : Int) + o).toNat = pc1) (hp2 : pc + 3 = pc2) (hy : x = y → WP C Z code ml own rt nm R n0 Q cl sl h pc1 Ls st) (hn : ¬ x = y → WP C Z code ml own rt nm R n0 Q cl sl h pc2 Ls st) : WP C Z code ml own rt nm R n0 Q cl sl h pc Ls (.int y :: .int x :: st) :=
  WP.icmp hd ho hp hp2 (fun hq => hy (Decidable.byContradiction fun k => by rw [(feq k).1] at hq; cases hq)) (fun hq => hn (fun k => by rw [(teq k).1] at hq; cases hq))
theorem WP.icmp_ne {pc1 pc2 : Nat} {x y : Int32} {o : Int} (hd : decode code pc = .ok (.if_icmp .ne o, 3)) (ho : 0 ≤ (pc : Int) + o) (hp : ((pc : Int) + o).toNat = pc1) (hp2 : pc + 3 = pc2) (hy : ¬ x = y → WP C Z code ml own rt nm R n0 Q cl sl h pc1 Ls st) (hn : x = y → WP C Z code ml own rt nm R n0 Q cl sl h pc2 Ls st) : WP C Z code ml own rt nm R n0 Q cl sl h pc Ls (.int y :: .int x :: st) :=
  WP.icmp hd ho hp hp2 (fun hq => hy (fun k => by rw [(teq k).2] at hq; cases hq)) (fun hq => hn (Decidable.byContradiction fun k => by rw [(feq k).2] at hq; cases hq))
theorem WP.ifc {pc1 pc2 : Nat} {x : Int32} {cd : ClassFile.Cond} {o : Int} (hd : decode code pc = .ok (.ifCond cd o, 3)) (ho : 0 ≤ (pc : Int) + o) (hp : ((pc : Int) + o).toNat = pc1) (hp2 : pc + 3 = pc2) (hy : ifCond.holds cd x = true → WP C Z code ml own rt nm R n0 Q cl sl h pc1 Ls st) (hn : ifCond.holds cd x = false → WP C Z code ml own rt nm R n0 Q cl sl h pc2 Ls st) : WP C Z code ml own rt nm R n0 Q cl sl h pc Ls (.int x :: st) := by
  subst hp2
  cases hq : ifCond.holds cd x with
  | true => exact (hy hq).pure fun X hx hby hown hZ eT t q => XS.ifYes X.here hx rfl (pc0 := pc) rfl (hb hby hd) rfl hq ho hp q
  | false => exact (hn hq).pure fun X hx hby hown hZ eT t q => XS.ifNo X.here hx rfl (hb hby hd) rfl hq q
theorem WP.ifc_lt {pc1 pc2 : Nat} {x : Int32} {o : Int} (hd : decode code pc = .ok (.ifCond .lt o, 3)) (ho : 0 ≤ (pc : Int) + o) (hp : ((pc : Int) + o).toNat = pc1) (hp2 : pc + 3 = pc2) (hy : x < (0 : Int32) → WP C Z code ml own rt nm R n0 Q cl sl h pc1 Ls st) (hn : ¬ x < (0 : Int32) → WP C Z code ml own rt nm R n0 Q cl sl h pc2 Ls st) : WP C Z code ml own rt nm R n0 Q cl sl h pc Ls (.int x :: st) :=
  WP.ifc hd ho hp hp2 (fun hq => hy (Decidable.byContradiction fun k => by rw [(if0 _ _).trans (flt k).1] at hq; cases hq)) (fun hq => hn (fun k => by rw [(if0 _ _).trans (tlt k).1] at hq; cases hq))
theorem WP.ifc_ge {pc1 pc2 : Nat} {x : Int32} {o : Int} (hd : decode code pc = .ok (.ifCond .ge o, 3)) (ho : 0 ≤ (pc : Int) + o) (hp : ((pc : Int) + o).toNat = pc1) (hp2 : pc + 3 = pc2) (hy : ¬ x < (0 : Int32) → WP C Z code ml own rt nm R n0 Q cl sl h pc1 Ls st) (hn : x < (0 : Int32) → WP C Z code ml own rt nm R n0 Q cl sl h pc2 Ls st) : WP C Z code ml own rt nm R n0 Q cl sl h pc Ls (.int x :: st) :=
  WP.ifc hd ho hp hp2 (fun hq => hy (fun k => by rw [(if0 _ _).trans (tlt k).2.1] at hq; cases hq)) (fun hq => hn (Decidable.byContradiction fun k => by rw [(if0 _ _).trans (flt k).2.1] at hq; cases hq))
theorem WP.ifc_gt {pc1 pc2 : Nat} {x : Int32} {o : Int} (hd : decode code pc = .ok (.ifCond .gt o, 3)) (ho : 0 ≤ (pc : Int) + o) (hp : ((pc : Int) + o).toNat = pc1) (hp2 : pc + 3 = pc2) (hy : (0 : Int32) < x → WP C Z code ml own rt nm R n0 Q cl sl h pc1 Ls st) (hn : ¬ (0 : Int32) < x → WP C Z code ml own rt nm R n0 Q cl sl h pc2 Ls st) : WP C Z code ml own rt nm R n0 Q cl sl h pc Ls (.int x :: st) :=
  WP.ifc hd ho hp hp2 (fun hq => hy (Decidable.byContradiction fun k => by rw [(if0 _ _).trans (flt k).2.2.1] at hq; cases hq)) (fun hq => hn (fun k => by rw [(if0 _ _).trans (tlt k).2.2.1] at hq; cases hq))
theorem WP.ifc_le {pc1 pc2 : Nat} {x : Int32} {o : Int} (hd : decode code pc = .ok (.ifCond .le o, 3)) (ho : 0 ≤ (pc : Int) + o) (hp : ((pc : Int) + o).toNat = pc1) (hp2 : pc + 3 = pc2) (hy : ¬ (0 : Int32) < x → WP C Z code ml own rt nm R n0 Q cl sl h pc1 Ls st) (hn : (0 : Int32) < x → WP C Z code ml own rt nm R n0 Q cl sl h pc2 Ls st) : WP C Z code ml own rt nm R n0 Q cl sl h pc Ls (.int x :: st) :=
  WP.ifc hd ho hp hp2 (fun hq => hy (fun k => by rw [(if0 _ _).trans (tlt k).2.2.2] at hq; cases hq)) (fun hq => hn (Decidable.byContradiction fun k => by rw [(if0 _ _).trans (flt k).2.2.2] at hq; cases hq))
theorem WP.ifc_eq {pc1 pc2 : Nat} {x : Int32} {o : Int} (hd : decode code pc = .ok (.ifCond .eq o, 3)) (ho : 0 ≤ (pc : Int) + o) (hp : ((pc : Int) + o).toNat = pc1) (hp2 : pc + 3 = pc2) (hy : x = (0 : Int32) → WP C Z code ml own rt nm R n0 Q cl sl h pc1 Ls st) (hn : ¬ x = (0 : Int32) → WP C Z code ml own rt nm R n0 Q cl sl h pc2 Ls st) : WP C Z code ml own rt nm R n0 Q cl sl h pc Ls (.int x :: st) :=
  WP.ifc hd ho hp hp2 (fun hq => hy (Decidable.byContradiction fun k => by rw [(if0 _ _).trans (feq k).1] at hq; cases hq)) (fun hq => hn (fun k => by rw [(if0 _ _).trans (teq k).1] at hq; cases hq))
theorem WP.ifc_ne {pc1 pc2 : Nat} {x : Int32} {o : Int} (hd : decode code pc = .ok (.ifCond .ne o, 3)) (ho : 0 ≤ (pc : Int) + o) (hp : ((pc : Int) + o).toNat = pc1) (hp2 : pc + 3 = pc2) (hy : ¬ x = (0 : Int32) → WP C Z code ml own rt nm R n0 Q cl sl h pc1 Ls st) (hn : x = (0 : Int32) → WP C Z code ml own rt nm R n0 Q cl sl h pc2 Ls st) : WP C Z code ml own rt nm R n0 Q cl sl h pc Ls (.int x :: st) :=
  WP.ifc hd ho hp hp2 (fun hq => hy (fun k => by rw [(if0 _ _).trans (teq k).2] at hq; cases hq)) (fun hq => hn (Decidable.byContradiction fun k => by rw [(if0 _ _).trans (feq k).2] at hq; cases hq))
theorem WP.lcmp_lt {pc1 pc2 : Nat} {x y : Int64} {o : Int} (hd1 : decode code pc = .ok (.lcmp, 1)) (hp0 : pc + 1 = pc') (hd : decode code pc' = .ok (.ifCond .lt o, 3)) (ho : 0 ≤ (pc' : Int) + o) (hp : ((pc' : Int) + o).toNat = pc1) (hp2 : pc' + 3 = pc2) (hy : x < y → WP C Z code ml own rt nm R n0 Q cl sl h pc1 Ls st) (hn : ¬ x < y → WP C Z code ml own rt nm R n0 Q cl sl h pc2 Ls st) : WP C Z code ml own rt nm R n0 Q cl sl h pc Ls (.long y :: .long x :: st) :=
  WP.lcmp hd1 hp0 (WP.ifc_lt hd ho hp hp2 (fun k => hy ((lw_lt x y).mp k)) (fun k => hn (fun z => k ((lw_lt x y).mpr z))))
theorem WP.lcmp_ge {pc1 pc2 : Nat} {x y : Int64} {o : Int} (hd1 : decode code pc = .ok (.lcmp, 1)) (hp0 : pc + 1 = pc') (hd : decode code pc' = .ok (.ifCond .ge o, 3)) (ho : 0 ≤ (pc' : Int) + o) (hp : ((pc' : Int) + o).toNat = pc1) (hp2 : pc' + 3 = pc2) (hy : ¬ x < y → WP C Z code ml own rt nm R n0 Q cl sl h pc1 Ls st) (hn : x < y → WP C Z code ml own rt nm R n0 Q cl sl h pc2 Ls st) : WP C Z code ml own rt nm R n0 Q cl sl h pc Ls (.long y :: .long x :: st) :=
  WP.lcmp hd1 hp0 (WP.ifc_ge hd ho hp hp2 (fun k => hy (fun z => k ((lw_lt x y).mpr z))) (fun k => hn ((lw_lt x y).mp k)))
theorem WP.lcmp_gt {pc1 pc2 : Nat} {x y : Int64} {o : Int} (hd1 : decode code pc = .ok (.lcmp, 1)) (hp0 : pc + 1 = pc') (hd : decode code pc' = .ok (.ifCond .gt o, 3)) (ho : 0 ≤ (pc' : Int) + o) (hp : ((pc' : Int) + o).toNat = pc1) (hp2 : pc' + 3 = pc2) (hy : y < x → WP C Z code ml own rt nm R n0 Q cl sl h pc1 Ls st) (hn : ¬ y < x → WP C Z code ml own rt nm R n0 Q cl sl h pc2 Ls st) : WP C Z code ml own rt nm R n0 Q cl sl h pc Ls (.long y :: .long x :: st) :=
  WP.lcmp hd1 hp0 (WP.ifc_gt hd ho hp hp2 (fun k => hy ((lw_gt x y).mp k)) (fun k => hn (fun z => k ((lw_gt x y).mpr z))))
theorem WP.lcmp_le {pc1 pc2 : Nat} {x y : Int64} {o : Int} (hd1 : decode code pc = .ok (.lcmp, 1)) (hp0 : pc + 1 = pc') (hd : decode code pc' = .ok (.ifCond .le o, 3)) (ho : 0 ≤ (pc' : Int) + o) (hp : ((pc' : Int) + o).toNat = pc1) (hp2 : pc' + 3 = pc2) (hy : ¬ y < x → WP C Z code ml own rt nm R n0 Q cl sl h pc1 Ls st) (hn : y < x → WP C Z code ml own rt nm R n0 Q cl sl h pc2 Ls st) : WP C Z code ml own rt nm R n0 Q cl sl h pc Ls (.long y :: .long x :: st) :=
  WP.lcmp hd1 hp0 (WP.ifc_le hd ho hp hp2 (fun k => hy (fun z => k ((lw_gt x y).mpr z))) (fun k => hn ((lw_gt x y).mp k)))
theorem WP.lcmp_eq {pc1 pc2 : Nat} {x y : Int64} {o : Int} (hd1 : decode code pc = .ok (.lcmp, 1)) (hp0 : pc + 1 = pc') (hd : decode code pc' = .ok (.ifCond .eq o, 3)) (ho : 0 ≤ (pc' : Int) + o) (hp : ((pc' : Int) + o).toNat = pc1) (hp2 : pc' + 3 = pc2) (hy : x = y → WP C Z code ml own rt nm R n0 Q cl sl h pc1 Ls st) (hn : ¬ x = y → WP C Z code ml own rt nm R n0 Q cl sl h pc2 Ls st) : WP C Z code ml own rt nm R n0 Q cl sl h pc Ls (.long y :: .long x :: st) :=
  WP.lcmp hd1 hp0 (WP.ifc_eq hd ho hp hp2 (fun k => hy ((lw_eq x y).mp k)) (fun k => hn (fun z => k ((lw_eq x y).mpr z))))
theorem WP.lcmp_ne {pc1 pc2 : Nat} {x y : Int64} {o : Int} (hd1 : decode code pc = .ok (.lcmp, 1)) (hp0 : pc + 1 = pc') (hd : decode code pc' = .ok (.ifCond .ne o, 3)) (ho : 0 ≤ (pc' : Int) + o) (hp : ((pc' : Int) + o).toNat = pc1) (hp2 : pc' + 3 = pc2) (hy : ¬ x = y → WP C Z code ml own rt nm R n0 Q cl sl h pc1 Ls st) (hn : x = y → WP C Z code ml own rt nm R n0 Q cl sl h pc2 Ls st) : WP C Z code ml own rt nm R n0 Q cl sl h pc Ls (.long y :: .long x :: st) :=
  WP.lcmp hd1 hp0 (WP.ifc_ne hd ho hp hp2 (fun k => hy (fun z => k ((lw_eq x y).mpr z))) (fun k => hn ((lw_eq x y).mp k)))
theorem WP.ifnullY {b : Addr} {o : Int} (hd : decode code pc = .ok (.ifnull o, 3)) (ho : 0 ≤ (pc : Int) + o) (hp : ((pc : Int) + o).toNat = pc') (hr : WP C Z code ml own rt nm R n0 Q cl sl h pc' Ls st) : WP C Z code ml own rt nm R n0 Q cl sl h pc Ls (.null :: st) :=
  hr.pure fun X hx hby hown hZ eT t q => XS.ifnullYes X.here hx rfl (pc0 := pc) rfl (hb hby hd) rfl ho hp q
theorem WP.ifnullN {b : Addr} {o : Int} (hd : decode code pc = .ok (.ifnull o, 3)) (hp : pc + 3 = pc') (hr : WP C Z code ml own rt nm R n0 Q cl sl h pc' Ls st) : WP C Z code ml own rt nm R n0 Q cl sl h pc Ls (.ref b :: st) := by
  subst hp
  exact hr.pure fun X hx hby hown hZ eT t q => XS.ifnullNo X.here hx rfl (hb hby hd) rfl q
theorem WP.ifnonnullY {b : Addr} {o : Int} (hd : decode code pc = .ok (.ifnonnull o, 3)) (ho : 0 ≤ (pc : Int) + o) (hp : ((pc : Int) + o).toNat = pc') (hr : WP C Z code ml own rt nm R n0 Q cl sl h pc' Ls st) : WP C Z code ml own rt nm R n0 Q cl sl h pc Ls (.ref b :: st) :=
  hr.pure fun X hx hby hown hZ eT t q => XS.ifnonnullYes X.here hx rfl (pc0 := pc) rfl (hb hby hd) rfl ho hp q
theorem WP.ifnonnullN {b : Addr} {o : Int} (hd : decode code pc = .ok (.ifnonnull o, 3)) (hp : pc + 3 = pc') (hr : WP C Z code ml own rt nm R n0 Q cl sl h pc' Ls st) : WP C Z code ml own rt nm R n0 Q cl sl h pc Ls (.null :: st) := by
  subst hp
  exact hr.pure fun X hx hby hown hZ eT t q => XS.ifnonnullNo X.here hx rfl (hb hby hd) rfl q
theorem WP.acmp_eq {pc1 pc2 : Nat} {x y : Value} {o : Int} (hd : decode code pc = .ok (.if_acmp .eq o, 3)) (h1 : x.isRef = true) (h2 : y.isRef = true) (ho : 0 ≤ (pc : Int) + o) (hp : ((pc : Int) + o).toNat = pc1) (hp2 : pc + 3 = pc2) (hy : x = y → WP C Z code ml own rt nm R n0 Q cl sl h pc1 Ls st) (hn : ¬ x = y → WP C Z code ml own rt nm R n0 Q cl sl h pc2 Ls st) : WP C Z code ml own rt nm R n0 Q cl sl h pc Ls (y :: x :: st) := by
  by_cases k : x = y
  · exact (hy k).pure fun X hx hby hown hZ eT t q => Jvm.RoadKit.acmp X hx rfl h1 h2 (pc0 := pc) (same := true) rfl (hb hby hd) rfl (decide_eq_true k) ho (by simp [acV, hp, hp2]) q
  · exact (hn k).pure fun X hx hby hown hZ eT t q => Jvm.RoadKit.acmp X hx rfl h1 h2 (pc0 := pc) (same := false) rfl (hb hby hd) rfl (decide_eq_false k) ho (by simp [acV, hp, hp2]) q
theorem WP.acmp_ne {pc1 pc2 : Nat} {x y : Value} {o : Int} (hd : decode code pc = .ok (.if_acmp .ne o, 3)) (h1 : x.isRef = true) (h2 : y.isRef = true) (ho : 0 ≤ (pc : Int) + o) (hp : ((pc : Int) + o).toNat = pc1) (hp2 : pc + 3 = pc2) (hy : ¬ x = y → WP C Z code ml own rt nm R n0 Q cl sl h pc1 Ls st) (hn : x = y → WP C Z code ml own rt nm R n0 Q cl sl h pc2 Ls st) : WP C Z code ml own rt nm R n0 Q cl sl h pc Ls (y :: x :: st) := by
  by_cases k : x = y
  · exact (hn k).pure fun X hx hby hown hZ eT t q => Jvm.RoadKit.acmp X hx rfl h1 h2 (pc0 := pc) (same := true) rfl (hb hby hd) rfl (decide_eq_true k) ho (by simp [acV, hp, hp2]) q
  · exact (hy k).pure fun X hx hby hown hZ eT t q => Jvm.RoadKit.acmp X hx rfl h1 h2 (pc0 := pc) (same := false) rfl (hb hby hd) rfl (decide_eq_false k) ho (by simp [acV, hp, hp2]) q
theorem WP.getF {i : Nat} {R0 O n d host : String} {a : Addr} {v : Value} (hd : decode code pc = .ok (.getfield i, 3)) (hp : pc + 3 = pc') (w : (Jvm.Cond.fieldLink own i R0 n d).before a0 Z = true ∨ (Jvm.Cond.fieldLinkNest own i R0 n d host).before a0 Z = true) (via : Via Z R0 O n d) (F : Fld Z h a O n d v) (hr : WP C Z code ml own rt nm R n0 Q cl sl h pc' Ls (v :: st)) : WP C Z code ml own rt nm R n0 Q cl sl h pc Ls (.ref a :: st) := by
  subst hp
  refine hr.step fun X hx hby hml hown hZ hnm eT N => ?_
  obtain ⟨T', X', e', k⟩ := RoadKit.getF X hx hZ hown w via eT F (g := mkF _ pc Ls (.ref a :: st)) rfl rfl (hb hby hd)
  exact ⟨T', _, X', e', N, fun t q => k t q⟩
theorem WP.getS {i : Nat} {R0 O n d host : String} {v : Value} (hd : decode code pc = .ok (.getstatic i, 3)) (hp : pc + 3 = pc') (w : (Jvm.Cond.fieldLink own i R0 n d).before a0 Z = true ∨ (Jvm.Cond.fieldLinkNest own i R0 n d host).before a0 Z = true) (via : Via Z R0 O n d) (F : Sta Z h O n d v) (hr : WP C Z code ml own rt nm R n0 Q cl sl h pc' Ls (v :: st)) : WP C Z code ml own rt nm R n0 Q cl sl h pc Ls st := by
  subst hp
  refine hr.step fun X hx hby hml hown hZ hnm eT N => ?_
  obtain ⟨T', X', e', k⟩ := getS2 X hx hZ hown w via eT F (g := mkF _ pc Ls st) rfl (hb hby hd)
  exact ⟨T', _, X', e', N, fun t q => k t q⟩
theorem WP.putF {i kk : Nat} {R0 O n d host K : String} {ty : FieldType} {a : Addr} {v old : Value} (hd : decode code pc = .ok (.putfield i, 3)) (hp : pc + 3 = pc') (w : (Jvm.Cond.fieldLink own i R0 n d).before a0 Z = true ∨ (Jvm.Cond.fieldLinkNest own i R0 n d host).before a0 Z = true) (via : Via Z R0 O n d) (F : Fld Z h a O n d old) (E : Exa Z h a K) (L : (Jvm.Cond.lays K O n d).before a0 Z = true ∨ ((Jvm.Cond.laysFinal K O n d).before a0 Z = true ∧ own = O ∧ nm = "<init>")) (wi : (Jvm.Cond.instantiable K kk).before a0 Z = true)
    (hty : parseFieldDescriptor d = some ty) (hn : narrow ty v = v) (hf : fits ty v = true) (ge : n0 ≤ a) (hr : ∀ h', Wr h h' a (Jvm.RoadKit.slotOf Z O n d) v → WP C Z code ml own rt nm R n0 Q cl sl h' pc' Ls st) : WP C Z code ml own rt nm R n0 Q cl sl h pc Ls (v :: .ref a :: st) := by
  subst hp
  intro k1 k2 k3 k4 k5 k6 k7 k8 T locs X e N
  obtain ⟨T', h', X', e', W', k⟩ := RoadKit.putF X k1 k5 k4 w via e F E (L.imp id fun z => ⟨z.1, z.2.1, k8.trans z.2.2⟩) wi hty hn hf (g := mkF _ pc Ls (v :: .ref a :: st)) rfl rfl (hb k2 hd)
  obtain ⟨s₂, v', L', h1, h2⟩ := hr h' W' k1 k2 k3 k4 k5 k6 k7 k8 T' _ X' e' (Fr.snoc X' N ge)
  exact ⟨s₂, v', L', k _ h1, h2⟩
theorem WP.putFN {i kk : Nat} {R0 O n d K : String} {ty : FieldType} {a : Addr} {v v' old : Value} (hd : decode code pc = .ok (.putfield i, 3)) (hp : pc + 3 = pc') (w : (Jvm.Cond.fieldLink own i R0 n d).before a0 Z = true) (via : Via Z R0 O n d) (F : Fld Z h a O n d old) (E : Exa Z h a K) (L : (Jvm.Cond.lays K O n d).before a0 Z = true ∨ ((Jvm.Cond.laysFinal K O n d).before a0 Z = true ∧ own = O ∧ nm = "<init>")) (wi : (Jvm.Cond.instantiable K kk).before a0 Z = true)
    (hty : parseFieldDescriptor d = some ty) (hn : narrow ty v = v') (hf : fits ty v' = true) (ge : n0 ≤ a) (hr : ∀ h', Wr h h' a (Jvm.RoadKit.slotOf Z O n d) v' → WP C Z code ml own rt nm R n0 Q cl sl h' pc' Ls st) : WP C Z code ml own rt nm R n0 Q cl sl h pc Ls (v :: .ref a :: st) := by
  subst hp
  intro k1 k2 k3 k4 k5 k6 k7 k8 T locs X e N
  obtain ⟨T', h', X', e', W', k⟩ := RoadKit.putFN X k1 k5 k4 w via e F E (L.imp id fun z => ⟨z.1, z.2.1, k8.trans z.2.2⟩) wi hty hn hf (g := mkF _ pc Ls (v :: .ref a :: st)) rfl rfl (hb k2 hd)
  obtain ⟨s₂, v'', L', h1, h2⟩ := hr h' W' k1 k2 k3 k4 k5 k6 k7 k8 T' _ X' e' (Fr.snoc X' N ge)
  exact ⟨s₂, v'', L', k _ h1, h2⟩
theorem WP.newO {i n : Nat} {K : String} {cl' sl' : Nat} (hd : decode code pc = .ok (.new i, 3)) (hp : pc + 3 = pc') (w : (Jvm.Cond.classLink own i K).before a0 Z = true) (wi : (Jvm.Cond.instantiable K n).before a0 Z = true) (wz : (Jvm.Cond.initialized K).before a0 Z = true) (hc : cl + 1 = cl') (hs : sl + n = sl') (hc' : cl' ≤ R.cells) (hs' : sl' ≤ R.slots)
    (hr : ∀ h' a, a = h.size → Ext h h' → Exa Z h' a K → (∀ {O nf d : String} {ty : FieldType}, Laid Z a0 K O nf d → parseFieldDescriptor d = some ty → Fld Z h' a O nf d (defaultValue ty)) → WP C Z code ml own rt nm R n0 Q cl' sl' h' pc' Ls (.ref a :: st)) : WP C Z code ml own rt nm R n0 Q cl sl h pc Ls st := by
  subst hp hc hs
  intro k1 k2 k3 k4 k5 k6 k7 k8 T locs X e N
  obtain ⟨T', h', X', e', E', A', D', -, k⟩ := RoadKit.newO X k1 k5 k4 w wi wz e (g := mkF _ pc Ls st) rfl (hb k2 hd) hc' hs'
  obtain ⟨s₂, v', L', h1, h2⟩ := hr h' _ rfl E' A' D' k1 k2 k3 k4 k5 k6 k7 k8 T' _ X' e' N
  exact ⟨s₂, v', L', k _ h1, h2⟩
/-- an array of n elements, the i-th is f i -/
def Arf (Z : State) (h : Heap) (a : Addr) (ty : FieldType) (n : Nat) (f : Nat → Value) : Prop := ∃ c : Cell, Arr Z h a c ty ∧ c.slots.size = n ∧ n < 2147483648 ∧ (∀ i, i < n → c.slots[i]? = some (f i)) ∧ ∀ i, i < n → fits ty (f i) = true
theorem Arf.lt {a : Addr} {ty : FieldType} {n : Nat} {f : Nat → Value} (A : Arf Z h a ty n f) : a < h.size := by obtain ⟨c, A, -⟩ := A; exact A.lt
theorem Arf.small {a : Addr} {ty : FieldType} {n : Nat} {f : Nat → Value} (A : Arf Z h a ty n f) : n < 2147483648 := by obtain ⟨c, -, -, h, -⟩ := A; exact h
theorem Arf.keep {h' : Heap} {ws : List Addr} {a : Addr} {ty : FieldType} {n : Nat} {f : Nat → Value} (A : Arf Z h a ty n f) (K : Keep h h' ws) (q : a ∉ ws) : Arf Z h' a ty n f := by obtain ⟨c, A, r⟩ := A; exact ⟨c, ⟨K.2.1 a c A.1 q, A.2⟩, r⟩
theorem Arf.ext {h' : Heap} {a : Addr} {ty : FieldType} {n : Nat} {f : Nat → Value} (A : Arf Z h a ty n f) (E : Ext h h') : Arf Z h' a ty n f := by obtain ⟨c, A, r⟩ := A; exact ⟨c, A.ext E, r⟩
theorem Arf.fit {a : Addr} {ty : FieldType} {n : Nat} {f : Nat → Value} (A : Arf Z h a ty n f) {i : Nat} (hi : i < n) : fits ty (f i) = true := by obtain ⟨c, -, -, -, -, r⟩ := A; exact r i hi
theorem Arf.congr {a : Addr} {ty : FieldType} {n : Nat} {f g : Nat → Value} (A : Arf Z h a ty n f) (q : ∀ i, i < n → f i = g i) : Arf Z h a ty n g := by
  obtain ⟨c, A, r1, r2, r3, r4⟩ := A; exact ⟨c, A, r1, r2, fun i hi => by rw [← q i hi]; exact r3 i hi, fun i hi => by rw [← q i hi]; exact r4 i hi⟩
theorem idxN {j : Int32} {i n : Nat} (hi : j.toInt = (i : Int)) (hl : i < n) : ¬ (j < 0 ∨ n ≤ j.toNatClampNeg) ∧ j.toNatClampNeg = i := by
  have e0 : (0 : Int32).toInt = 0 := rfl
  simp only [Int32.lt_iff_toInt_lt, Int32.toNatClampNeg, hi, e0]; omega
theorem WP.baload {a : Addr} {j : Int32} {n : Nat} {f : Nat → Value} {v : Value} (i : Nat) (hd : decode code pc = .ok (.baload, 1)) (hp : pc + 1 = pc') (A : Arf Z h a .byte n f) (hi : j.toInt = (i : Int)) (hl : i < n) (hv : f i = v) (hr : WP C Z code ml own rt nm R n0 Q cl sl h pc' Ls (v :: st)) : WP C Z code ml own rt nm R n0 Q cl sl h pc Ls (.int j :: .ref a :: st) := by
  subst hp hv
  obtain ⟨c, A, r1, r2, r3, r4⟩ := A
  obtain ⟨q1, q2⟩ := idxN hi hl
  exact hr.pure fun X hx hby hown hZ eT t q => X.baloadBytes hx (j := j) (by rw [eT]; exact A.1) (State.isArrayOf_alike hZ.alike A.2.1) A.2.2 (by rw [r1]; exact q1) (by rw [q2]; exact r3 i hl) (g := mkF _ pc Ls (.int j :: .ref a :: st)) rfl rfl (hb hby hd) t q
theorem WP.baloadZ {a : Addr} {j : Int32} {n : Nat} {f : Nat → Value} {v : Value} (i : Nat) (hd : decode code pc = .ok (.baload, 1)) (hp : pc + 1 = pc') (A : Arf Z h a .boolean n f) (hi : j.toInt = (i : Int)) (hl : i < n) (hv : f i = v) (hr : WP C Z code ml own rt nm R n0 Q cl sl h pc' Ls (v :: st)) : WP C Z code ml own rt nm R n0 Q cl sl h pc Ls (.int j :: .ref a :: st) := by
  subst hp hv
  obtain ⟨c, A, r1, r2, r3, r4⟩ := A
  obtain ⟨q1, q2⟩ := idxN hi hl
  exact hr.pure fun X hx hby hown hZ eT t q => X.baloadBooleans hx (j := j) (by rw [eT]; exact A.1) (State.isArrayOf_alike hZ.alike A.2.1) A.2.2 (by rw [r1]; exact q1) (by rw [q2]; exact r3 i hl) (g := mkF _ pc Ls (.int j :: .ref a :: st)) rfl rfl (hb hby hd) t q
theorem WP.caload {a : Addr} {j : Int32} {n : Nat} {f : Nat → Value} {v : Value} (i : Nat) (hd : decode code pc = .ok (.caload, 1)) (hp : pc + 1 = pc') (A : Arf Z h a .char n f) (hi : j.toInt = (i : Int)) (hl : i < n) (hv : f i = v) (hr : WP C Z code ml own rt nm R n0 Q cl sl h pc' Ls (v :: st)) : WP C Z code ml own rt nm R n0 Q cl sl h pc Ls (.int j :: .ref a :: st) := by
  subst hp hv
  obtain ⟨c, A, r1, r2, r3, r4⟩ := A
  obtain ⟨q1, q2⟩ := idxN hi hl
  exact hr.pure fun X hx hby hown hZ eT t q => X.caload hx (j := j) (by rw [eT]; exact A.1) (State.isArrayOf_alike hZ.alike A.2.1) A.2.2 (by rw [r1]; exact q1) (by rw [q2]; exact r3 i hl) (g := mkF _ pc Ls (.int j :: .ref a :: st)) rfl rfl (hb hby hd) t q
theorem WP.iaload {a : Addr} {j : Int32} {n : Nat} {f : Nat → Value} {v : Value} (i : Nat) (hd : decode code pc = .ok (.iaload, 1)) (hp : pc + 1 = pc') (A : Arf Z h a .int n f) (hi : j.toInt = (i : Int)) (hl : i < n) (hv : f i = v) (hr : WP C Z code ml own rt nm R n0 Q cl sl h pc' Ls (v :: st)) : WP C Z code ml own rt nm R n0 Q cl sl h pc Ls (.int j :: .ref a :: st) := by
  subst hp hv
  obtain ⟨c, A, r1, r2, r3, r4⟩ := A
  obtain ⟨q1, q2⟩ := idxN hi hl
  exact hr.pure fun X hx hby hown hZ eT t q => X.iaload hx (j := j) (by rw [eT]; exact A.1) (State.isArrayOf_alike hZ.alike A.2.1) A.2.2 (by rw [r1]; exact q1) (by rw [q2]; exact r3 i hl) (g := mkF _ pc Ls (.int j :: .ref a :: st)) rfl rfl (hb hby hd) t q
theorem WP.laload {a : Addr} {j : Int32} {n : Nat} {f : Nat → Value} {v : Value} (i : Nat) (hd : decode code pc = .ok (.laload, 1)) (hp : pc + 1 = pc') (A : Arf Z h a .long n f) (hi : j.toInt = (i : Int)) (hl : i < n) (hv : f i = v) (hr : WP C Z code ml own rt nm R n0 Q cl sl h pc' Ls (v :: st)) : WP C Z code ml own rt nm R n0 Q cl sl h pc Ls (.int j :: .ref a :: st) := by
  subst hp hv
  obtain ⟨c, A, r1, r2, r3, r4⟩ := A
  obtain ⟨q1, q2⟩ := idxN hi hl
  exact hr.pure fun X hx hby hown hZ eT t q => X.laload hx (j := j) (by rw [eT]; exact A.1) (State.isArrayOf_alike hZ.alike A.2.1) A.2.2 (by rw [r1]; exact q1) (by rw [q2]; exact r3 i hl) (g := mkF _ pc Ls (.int j :: .ref a :: st)) rfl rfl (hb hby hd) t q
theorem WP.saload {a : Addr} {j : Int32} {n : Nat} {f : Nat → Value} {v : Value} (i : Nat) (hd : decode code pc = .ok (.saload, 1)) (hp : pc + 1 = pc') (A : Arf Z h a .short n f) (hi : j.toInt = (i : Int)) (hl : i < n) (hv : f i = v) (hr : WP C Z code ml own rt nm R n0 Q cl sl h pc' Ls (v :: st)) : WP C Z code ml own rt nm R n0 Q cl sl h pc Ls (.int j :: .ref a :: st) := by
  subst hp hv
  obtain ⟨c, A, r1, r2, r3, r4⟩ := A
  obtain ⟨q1, q2⟩ := idxN hi hl
  exact hr.pure fun X hx hby hown hZ eT t q => X.saload hx (j := j) (by rw [eT]; exact A.1) (State.isArrayOf_alike hZ.alike A.2.1) A.2.2 (by rw [r1]; exact q1) (by rw [q2]; exact r3 i hl) (g := mkF _ pc Ls (.int j :: .ref a :: st)) rfl rfl (hb hby hd) t q
theorem WP.aaload {a : Addr} {j : Int32} {n : Nat} {f : Nat → Value} {v : Value} {ty : FieldType} (i : Nat) (hd : decode code pc = .ok (.aaload, 1)) (hp : pc + 1 = pc') (A : Arf Z h a ty n f) (hty : ty.isReference = true) (hi : j.toInt = (i : Int)) (hl : i < n) (hv : f i = v) (hr : WP C Z code ml own rt nm R n0 Q cl sl h pc' Ls (v :: st)) : WP C Z code ml own rt nm R n0 Q cl sl h pc Ls (.int j :: .ref a :: st) := by
  subst hp hv
  obtain ⟨c, A, r1, r2, r3, r4⟩ := A
  obtain ⟨q1, q2⟩ := idxN hi hl
  exact hr.pure fun X hx hby hown hZ eT t q => X.aaload hx (j := j) (by rw [eT]; exact A.1) (State.isArrayOf_alike hZ.alike A.2.1) hty A.2.2 (by rw [r1]; exact q1) (by rw [q2]; exact r3 i hl) (g := mkF _ pc Ls (.int j :: .ref a :: st)) rfl rfl (hb hby hd) t q
theorem WP.arraylength {a : Addr} {n : Nat} {f : Nat → Value} {ty : FieldType} {z : Int32} (hd : decode code pc = .ok (.arraylength, 1)) (hp : pc + 1 = pc') (A : Arf Z h a ty n f) (hz : n.toInt32 = z) (hr : WP C Z code ml own rt nm R n0 Q cl sl h pc' Ls (.int z :: st)) : WP C Z code ml own rt nm R n0 Q cl sl h pc Ls (.ref a :: st) := by
  subst hp hz
  obtain ⟨c, A, r1, r2, r3, r4⟩ := A
  exact hr.pure fun X hx hby hown hZ eT t q => X.arraylength hx (by rw [eT]; exact A.1) (State.isArrayOf_alike hZ.alike A.2.1) (g := mkF _ pc Ls (.ref a :: st)) rfl rfl (hb hby hd) t (by rw [r1]; exact q)
theorem Arf.set {h' : Heap} {a : Addr} {ty : FieldType} {n : Nat} {f : Nat → Value} {c : Cell} {v : Value} {j : Int32} {i : Nat} (A : Arr Z h a c ty) (r1 : c.slots.size = n) (r2 : n < 2147483648) (r3 : ∀ i, i < n → c.slots[i]? = some (f i)) (r4 : ∀ i, i < n → fits ty (f i) = true) (hv : fits ty v = true) (W : Wr h h' a j.toNatClampNeg v) (hj : j.toNatClampNeg = i) (hl : i < n) : Arf Z h' a ty n (fun k => if k = i then v else f k) := by
  subst hj
  refine ⟨_, A.same W, by rw [sz_set]; exact r1, r2, fun k hk => ?_, fun k hk => ?_⟩
  · by_cases e : k = j.toNatClampNeg
    · show _ = some (if k = j.toNatClampNeg then v else f k)
      rw [if_pos e, e]; simp [Cell.setSlot, r1, hl]
    · show _ = some (if k = j.toNatClampNeg then v else f k)
      rw [if_neg e, ← r3 k hk]; exact Array.getElem?_setIfInBounds_ne (Ne.symm e)
  · by_cases e : k = j.toNatClampNeg
    · simp only [if_pos e]; exact hv
    · simp only [if_neg e]; exact r4 k hk
theorem WP.bastore {a : Addr} {j : Int32} {x : Int32} {n : Nat} {f : Nat → Value} (i : Nat) (hd : decode code pc = .ok (.bastore, 1)) (hp : pc + 1 = pc') (A : Arf Z h a .byte n f) (hi : j.toInt = (i : Int)) (hl : i < n) (ge : n0 ≤ a) (hr : ∀ h', Keep h h' [a] → Arf Z h' a .byte n (fun k => if k = i then .int (nar .byte x) else f k) → WP C Z code ml own rt nm R n0 Q cl sl h' pc' Ls st) : WP C Z code ml own rt nm R n0 Q cl sl h pc Ls (.int x :: .int j :: .ref a :: st) := by
  subst hp
  obtain ⟨c, A, r1, r2, r3, r4⟩ := A
  obtain ⟨q1, q2⟩ := idxN hi hl
  intro k1 k2 k3 k4 k5 k6 k7 k8 T locs X e N
  obtain ⟨T', h', X', e', W', k⟩ := stB X k1 k5 e A (j := j) (x := x) (by rw [r1]; exact q1) (g := mkF _ pc Ls (.int x :: .int j :: .ref a :: st)) rfl rfl (hb k2 hd)
  obtain ⟨s₂, v', L', h1, h2⟩ := hr h' (Keep.of_wr W') (Arf.set A r1 r2 r3 r4 (fits_nar_byte x) W' q2 hl) k1 k2 k3 k4 k5 k6 k7 k8 T' _ X' e' (Fr.snoc X' N ge)
  exact ⟨s₂, v', L', k _ h1, h2⟩
theorem WP.castore {a : Addr} {j : Int32} {x : Int32} {n : Nat} {f : Nat → Value} (i : Nat) (hd : decode code pc = .ok (.castore, 1)) (hp : pc + 1 = pc') (A : Arf Z h a .char n f) (hi : j.toInt = (i : Int)) (hl : i < n) (ge : n0 ≤ a) (hr : ∀ h', Keep h h' [a] → Arf Z h' a .char n (fun k => if k = i then .int (nar .char x) else f k) → WP C Z code ml own rt nm R n0 Q cl sl h' pc' Ls st) : WP C Z code ml own rt nm R n0 Q cl sl h pc Ls (.int x :: .int j :: .ref a :: st) := by
  subst hp
  obtain ⟨c, A, r1, r2, r3, r4⟩ := A
  obtain ⟨q1, q2⟩ := idxN hi hl
  intro k1 k2 k3 k4 k5 k6 k7 k8 T locs X e N
  obtain ⟨T', h', X', e', W', k⟩ := stC X k1 k5 e A (j := j) (x := x) (by rw [r1]; exact q1) (g := mkF _ pc Ls (.int x :: .int j :: .ref a :: st)) rfl rfl (hb k2 hd)
  obtain ⟨s₂, v', L', h1, h2⟩ := hr h' (Keep.of_wr W') (Arf.set A r1 r2 r3 r4 (fits_nar_char x) W' q2 hl) k1 k2 k3 k4 k5 k6 k7 k8 T' _ X' e' (Fr.snoc X' N ge)
  exact ⟨s₂, v', L', k _ h1, h2⟩
theorem WP.iastore {a : Addr} {j : Int32} {x : Int32} {n : Nat} {f : Nat → Value} (i : Nat) (hd : decode code pc = .ok (.iastore, 1)) (hp : pc + 1 = pc') (A : Arf Z h a .int n f) (hi : j.toInt = (i : Int)) (hl : i < n) (ge : n0 ≤ a) (hr : ∀ h', Keep h h' [a] → Arf Z h' a .int n (fun k => if k = i then .int x else f k) → WP C Z code ml own rt nm R n0 Q cl sl h' pc' Ls st) : WP C Z code ml own rt nm R n0 Q cl sl h pc Ls (.int x :: .int j :: .ref a :: st) := by
  subst hp
  obtain ⟨c, A, r1, r2, r3, r4⟩ := A
  obtain ⟨q1, q2⟩ := idxN hi hl
  intro k1 k2 k3 k4 k5 k6 k7 k8 T locs X e N
  obtain ⟨T', h', X', e', W', k⟩ := stI X k1 k5 e A (j := j) (x := x) (by rw [r1]; exact q1) (g := mkF _ pc Ls (.int x :: .int j :: .ref a :: st)) rfl rfl (hb k2 hd)
  obtain ⟨s₂, v', L', h1, h2⟩ := hr h' (Keep.of_wr W') (Arf.set A r1 r2 r3 r4 rfl W' q2 hl) k1 k2 k3 k4 k5 k6 k7 k8 T' _ X' e' (Fr.snoc X' N ge)
  exact ⟨s₂, v', L', k _ h1, h2⟩
theorem WP.lastore {a : Addr} {j : Int32} {x : Int64} {n : Nat} {f : Nat → Value} (i : Nat) (hd : decode code pc = .ok (.lastore, 1)) (hp : pc + 1 = pc') (A : Arf Z h a .long n f) (hi : j.toInt = (i : Int)) (hl : i < n) (ge : n0 ≤ a) (hr : ∀ h', Keep h h' [a] → Arf Z h' a .long n (fun k => if k = i then .long x else f k) → WP C Z code ml own rt nm R n0 Q cl sl h' pc' Ls st) : WP C Z code ml own rt nm R n0 Q cl sl h pc Ls (.long x :: .int j :: .ref a :: st) := by
  subst hp
  obtain ⟨c, A, r1, r2, r3, r4⟩ := A
  obtain ⟨q1, q2⟩ := idxN hi hl
  intro k1 k2 k3 k4 k5 k6 k7 k8 T locs X e N
  obtain ⟨T', h', X', e', W', k⟩ := stJ X k1 k5 e A (j := j) (x := x) (by rw [r1]; exact q1) (g := mkF _ pc Ls (.long x :: .int j :: .ref a :: st)) rfl rfl (hb k2 hd)
  obtain ⟨s₂, v', L', h1, h2⟩ := hr h' (Keep.of_wr W') (Arf.set A r1 r2 r3 r4 rfl W' q2 hl) k1 k2 k3 k4 k5 k6 k7 k8 T' _ X' e' (Fr.snoc X' N ge)
  exact ⟨s₂, v', L', k _ h1, h2⟩
theorem WP.newP {aty : ArrayType} {z : Int32} {n cap : Nat} {cl' sl' : Nat} (hd : decode code pc = .ok (.newarray aty, 2)) (hp : pc + 2 = pc') (w : (Jvm.Cond.arrayClass (newarray.typeOf aty)).before a0 Z = true) (hz : z.toInt = (n : Int)) (hcap : n ≤ cap) (hbig : cap * 8 ≤ 536870912) (hc : cl + 1 = cl') (hs : sl + cap = sl') (hc' : cl' ≤ R.cells) (hs' : sl' ≤ R.slots)
    (hr : ∀ h' a, a = h.size → Ext h h' → Arf Z h' a (newarray.typeOf aty) n (fun _ => defaultValue (newarray.typeOf aty)) → WP C Z code ml own rt nm R n0 Q cl' sl' h' pc' Ls (.ref a :: st)) : WP C Z code ml own rt nm R n0 Q cl sl h pc Ls (.int z :: st) := by
  subst hp hc hs
  have e0 : (0 : Int32).toInt = 0 := rfl
  have hzn : z.toNatClampNeg = n := by simp only [Int32.toNatClampNeg, hz]; omega
  have hzl : n < 2147483648 := by have := z.toInt_lt; omega
  intro k1 k2 k3 k4 k5 k6 k7 k8 T locs X e N
  obtain ⟨T', h', cA, X', e', E', A', k⟩ := RoadKit.newP X k1 k5 w e (g := mkF _ pc Ls (.int z :: st)) rfl (hb k2 hd) rfl (by rw [Int32.lt_iff_toInt_lt, hz, e0]; omega) (cap := cap) (by rw [hzn]; exact hcap) hbig hc' hs'
  obtain ⟨s₂, v', L', h1, h2⟩ := hr h' _ rfl E' ⟨_, A', by rw [sz_new, hzn], hzl, fun i hi => by simp [newA, hzn, hi], fun i _ => by cases aty <;> rfl⟩ k1 k2 k3 k4 k5 k6 k7 k8 T' _ X' e' N
  exact ⟨s₂, v', L', k _ h1, h2⟩
def updI (g : Nat → Int32) (i : Nat) (x : Int32) : Nat → Int32 := fun k => if k = i then x else g k
def Ari (Z : State) (h : Heap) (a : Addr) (ty : FieldType) (n : Nat) (g : Nat → Int32) : Prop := Arf Z h a ty n (fun i => .int (g i))
theorem Ari.lt {a : Addr} {ty : FieldType} {n : Nat} {g : Nat → Int32} (A : Ari Z h a ty n g) : a < h.size := Arf.lt A
theorem Ari.small {a : Addr} {ty : FieldType} {n : Nat} {g : Nat → Int32} (A : Ari Z h a ty n g) : n < 2147483648 := Arf.small A
theorem Ari.keep {h' : Heap} {ws : List Addr} {a : Addr} {ty : FieldType} {n : Nat} {g : Nat → Int32} (A : Ari Z h a ty n g) (K : Keep h h' ws) (q : a ∉ ws) : Ari Z h' a ty n g := Arf.keep A K q
theorem Ari.ext {h' : Heap} {a : Addr} {ty : FieldType} {n : Nat} {g : Nat → Int32} (A : Ari Z h a ty n g) (E : Ext h h') : Ari Z h' a ty n g := Arf.ext A E
theorem Ari.congr {a : Addr} {ty : FieldType} {n : Nat} {f g : Nat → Int32} (A : Ari Z h a ty n f) (q : ∀ i, i < n → f i = g i) : Ari Z h a ty n g := Arf.congr A fun i hi => congrArg Value.int (q i hi)
theorem upd_at (g : Nat → Int32) (i : Nat) (x : Int32) : updI g i x i = x := if_pos rfl
theorem upd_ne {g : Nat → Int32} {i k : Nat} {x : Int32} (q : k ≠ i) : updI g i x k = g k := if_neg q
theorem upd_if (g : Nat → Int32) (i : Nat) (x : Int32) : (fun k => if k = i then Value.int x else Value.int (g k)) = fun k => Value.int (updI g i x k) := by funext k; unfold updI; split <;> rfl
theorem litN (z : Int32) (n : Nat) (h : z.toInt = (n : Int)) : z.toInt = (n : Int) := h
theorem WP.baloadI {a : Addr} {j : Int32} {n : Nat} {g : Nat → Int32} {v : Int32} (i : Nat) (hd : decode code pc = .ok (.baload, 1)) (hp : pc + 1 = pc') (A : Ari Z h a .byte n g) (hi : j.toInt = (i : Int)) (hl : i < n) (hv : g i = v) (hr : WP C Z code ml own rt nm R n0 Q cl sl h pc' Ls (.int v :: st)) : WP C Z code ml own rt nm R n0 Q cl sl h pc Ls (.int j :: .ref a :: st) := WP.baload i hd hp A hi hl (congrArg Value.int hv) hr
theorem WP.baloadZI {a : Addr} {j : Int32} {n : Nat} {g : Nat → Int32} {v : Int32} (i : Nat) (hd : decode code pc = .ok (.baload, 1)) (hp : pc + 1 = pc') (A : Ari Z h a .boolean n g) (hi : j.toInt = (i : Int)) (hl : i < n) (hv : g i = v) (hr : WP C Z code ml own rt nm R n0 Q cl sl h pc' Ls (.int v :: st)) : WP C Z code ml own rt nm R n0 Q cl sl h pc Ls (.int j :: .ref a :: st) := WP.baloadZ i hd hp A hi hl (congrArg Value.int hv) hr
theorem WP.caloadI {a : Addr} {j : Int32} {n : Nat} {g : Nat → Int32} {v : Int32} (i : Nat) (hd : decode code pc = .ok (.caload, 1)) (hp : pc + 1 = pc') (A : Ari Z h a .char n g) (hi : j.toInt = (i : Int)) (hl : i < n) (hv : g i = v) (hr : WP C Z code ml own rt nm R n0 Q cl sl h pc' Ls (.int v :: st)) : WP C Z code ml own rt nm R n0 Q cl sl h pc Ls (.int j :: .ref a :: st) := WP.caload i hd hp A hi hl (congrArg Value.int hv) hr
theorem WP.ialoadI {a : Addr} {j : Int32} {n : Nat} {g : Nat → Int32} {v : Int32} (i : Nat) (hd : decode code pc = .ok (.iaload, 1)) (hp : pc + 1 = pc') (A : Ari Z h a .int n g) (hi : j.toInt = (i : Int)) (hl : i < n) (hv : g i = v) (hr : WP C Z code ml own rt nm R n0 Q cl sl h pc' Ls (.int v :: st)) : WP C Z code ml own rt nm R n0 Q cl sl h pc Ls (.int j :: .ref a :: st) := WP.iaload i hd hp A hi hl (congrArg Value.int hv) hr
theorem WP.saloadI {a : Addr} {j : Int32} {n : Nat} {g : Nat → Int32} {v : Int32} (i : Nat) (hd : decode code pc = .ok (.saload, 1)) (hp : pc + 1 = pc') (A : Ari Z h a .short n g) (hi : j.toInt = (i : Int)) (hl : i < n) (hv : g i = v) (hr : WP C Z code ml own rt nm R n0 Q cl sl h pc' Ls (.int v :: st)) : WP C Z code ml own rt nm R n0 Q cl sl h pc Ls (.int j :: .ref a :: st) := WP.saload i hd hp A hi hl (congrArg Value.int hv) hr
theorem WP.bastoreI {a : Addr} {j x x' : Int32} {n : Nat} {g : Nat → Int32} (i : Nat) (hd : decode code pc = .ok (.bastore, 1)) (hp : pc + 1 = pc') (A : Ari Z h a .byte n g) (hi : j.toInt = (i : Int)) (hl : i < n) (ge : n0 ≤ a) (hx : nar .byte x = x') (hr : ∀ h', Keep h h' [a] → Ari Z h' a .byte n (updI g i x') → WP C Z code ml own rt nm R n0 Q cl sl h' pc' Ls st) : WP C Z code ml own rt nm R n0 Q cl sl h pc Ls (.int x :: .int j :: .ref a :: st) := by
  subst hx
  exact WP.bastore i hd hp A hi hl ge fun h' K A' => hr h' K (by unfold Ari; rw [← upd_if]; exact A')
theorem WP.castoreI {a : Addr} {j x x' : Int32} {n : Nat} {g : Nat → Int32} (i : Nat) (hd : decode code pc = .ok (.castore, 1)) (hp : pc + 1 = pc') (A : Ari Z h a .char n g) (hi : j.toInt = (i : Int)) (hl : i < n) (ge : n0 ≤ a) (hx : nar .char x = x') (hr : ∀ h', Keep h h' [a] → Ari Z h' a .char n (updI g i x') → WP C Z code ml own rt nm R n0 Q cl sl h' pc' Ls st) : WP C Z code ml own rt nm R n0 Q cl sl h pc Ls (.int x :: .int j :: .ref a :: st) := by
  subst hx
  exact WP.castore i hd hp A hi hl ge fun h' K A' => hr h' K (by unfold Ari; rw [← upd_if]; exact A')
theorem WP.iastoreI {a : Addr} {j x x' : Int32} {n : Nat} {g : Nat → Int32} (i : Nat) (hd : decode code pc = .ok (.iastore, 1)) (hp : pc + 1 = pc') (A : Ari Z h a .int n g) (hi : j.toInt = (i : Int)) (hl : i < n) (ge : n0 ≤ a) (hx : x = x') (hr : ∀ h', Keep h h' [a] → Ari Z h' a .int n (updI g i x') → WP C Z code ml own rt nm R n0 Q cl sl h' pc' Ls st) : WP C Z code ml own rt nm R n0 Q cl sl h pc Ls (.int x :: .int j :: .ref a :: st) := by
  subst hx
  exact WP.iastore i hd hp A hi hl ge fun h' K A' => hr h' K (by unfold Ari; rw [← upd_if]; exact A')
theorem WP.newPI {aty : ArrayType} {ty : FieldType} {z : Int32} {n cap : Nat} {cl' sl' : Nat} (hd : decode code pc = .ok (.newarray aty, 2)) (hp : pc + 2 = pc') (hty : newarray.typeOf aty = ty) (hdv : defaultValue ty = .int 0) (w : (Jvm.Cond.arrayClass ty).before a0 Z = true) (hz : z.toInt = (n : Int)) (hcap : n ≤ cap) (hbig : cap * 8 ≤ 536870912) (hc : cl + 1 = cl') (hs : sl + cap = sl') (hc' : cl' ≤ R.cells) (hs' : sl' ≤ R.slots)
    (hr : ∀ h' a, a = h.size → Ext h h' → Ari Z h' a ty n (fun _ => 0) → WP C Z code ml own rt nm R n0 Q cl' sl' h' pc' Ls (.ref a :: st)) : WP C Z code ml own rt nm R n0 Q cl sl h pc Ls (.int z :: st) := by
  subst hty
  exact WP.newP hd hp w hz hcap hbig hc hs hc' hs' fun h' a e E A => hr h' a e E (by rw [hdv] at A; exact A)
theorem WP.arraylengthI {a : Addr} {n : Nat} {g : Nat → Int32} {ty : FieldType} {z : Int32} (hd : decode code pc = .ok (.arraylength, 1)) (hp : pc + 1 = pc') (A : Ari Z h a ty n g) (hz : n.toInt32 = z) (hr : WP C Z code ml own rt nm R n0 Q cl sl h pc' Ls (.int z :: st)) : WP C Z code ml own rt nm R n0 Q cl sl h pc Ls (.ref a :: st) := WP.arraylength hd hp A hz hr
/-- the array's class is that of arrays of C -/
def Ocl (Z : State) (h : Heap) (a : Addr) (K : String) : Prop := ∃ c : Cell, h[a]? = some c ∧ Ovr Z c.cls K
theorem Ocl.ext {h' : Heap} {a : Addr} {K : String} (O : Ocl Z h a K) (E : Ext h h') : Ocl Z h' a K := by obtain ⟨c, h1, h2⟩ := O; exact ⟨c, E.2 _ _ h1, h2⟩
theorem Ocl.keep {h' : Heap} {ws : List Addr} {a : Addr} {K : String} (O : Ocl Z h a K) (E : Keep h h' ws) : Ocl Z h' a K := by
  obtain ⟨c, h1, h2⟩ := O
  obtain ⟨c', q1, q2, -⟩ := E.2.2 _ _ h1
  exact ⟨c', q1, by rw [q2]; exact h2⟩
theorem Ocl.sto {a y : Addr} {K : String} {ty : FieldType} {n : Nat} {f : Nat → Value} (O : Ocl Z h a K) (A : Arf Z h a ty n f) (I : Ins Z h y K true) : Sto Z h a (.ref y) := by
  obtain ⟨c, h1, h2⟩ := O
  obtain ⟨c', A, -⟩ := A
  cases h1.symm.trans A.1
  exact Sto.of A h2 I
def updV (g : Nat → Value) (i : Nat) (x : Value) : Nat → Value := fun k => if k = i then x else g k
theorem WP.newR {i n cap : Nat} {K : String} {z : Int32} {cl' sl' : Nat} (hd : decode code pc = .ok (.anewarray i, 3)) (hp : pc + 3 = pc') (w1 : (Jvm.Cond.classLink own i K).before a0 Z = true) (w2 : (Jvm.Cond.arrayOver (.object K)).before a0 Z = true) (hz : z.toInt = (n : Int)) (hcap : n ≤ cap) (hbig : cap * 8 ≤ 536870912) (hc : cl + 1 = cl') (hs : sl + cap = sl') (hc' : cl' ≤ R.cells) (hs' : sl' ≤ R.slots)
    (hr : ∀ h' a, a = h.size → Ext h h' → Arf Z h' a (.object K) n (fun _ => .null) → Ocl Z h' a K → WP C Z code ml own rt nm R n0 Q cl' sl' h' pc' Ls (.ref a :: st)) : WP C Z code ml own rt nm R n0 Q cl sl h pc Ls (.int z :: st) := by
  subst hp hc hs
  have e0 : (0 : Int32).toInt = 0 := rfl
  have hzn : z.toNatClampNeg = n := by simp only [Int32.toNatClampNeg, hz]; omega
  have hzl : n < 2147483648 := by have := z.toInt_lt; omega
  intro k1 k2 k3 k4 k5 k6 k7 k8 T locs X e N
  obtain ⟨T', h', cA, X', e', E', A', O', k⟩ := RoadKit.newR X k1 k5 k4 w1 w2 e (g := mkF _ pc Ls (.int z :: st)) rfl (hb k2 hd) rfl (by rw [Int32.lt_iff_toInt_lt, hz, e0]; omega) (cap := cap) (by rw [hzn]; exact hcap) hbig hc' hs'
  obtain ⟨s₂, v', L', h1, h2⟩ := hr h' _ rfl E' ⟨_, A', by rw [sz_new, hzn], hzl, fun i hi => by simp [newA, hzn, hi, defaultValue], fun i _ => rfl⟩ ⟨_, A'.1, O'⟩ k1 k2 k3 k4 k5 k6 k7 k8 T' _ X' e' N
  exact ⟨s₂, v', L', k _ h1, h2⟩
theorem WP.aastore {a : Addr} {j : Int32} {x : Value} {n : Nat} {f : Nat → Value} {ty : FieldType} (i : Nat) (hd : decode code pc = .ok (.aastore, 1)) (hp : pc + 1 = pc') (A : Arf Z h a ty n f) (hty : ty.isReference = true) (F : Sto Z h a x) (hf : fits ty x = true) (hi : j.toInt = (i : Int)) (hl : i < n) (ge : n0 ≤ a) (hr : ∀ h', Keep h h' [a] → Arf Z h' a ty n (updV f i x) → WP C Z code ml own rt nm R n0 Q cl sl h' pc' Ls st) : WP C Z code ml own rt nm R n0 Q cl sl h pc Ls (x :: .int j :: .ref a :: st) := by
  subst hp
  obtain ⟨c, A, r1, r2, r3, r4⟩ := A
  obtain ⟨q1, q2⟩ := idxN hi hl
  intro k1 k2 k3 k4 k5 k6 k7 k8 T locs X e N
  obtain ⟨T', h', X', e', W', k⟩ := stR X k1 k5 e A (j := j) (by rw [r1]; exact q1) hty F (g := mkF _ pc Ls (x :: .int j :: .ref a :: st)) rfl rfl (hb k2 hd)
  obtain ⟨s₂, v', L', h1, h2⟩ := hr h' (Keep.of_wr W') (Arf.set A r1 r2 r3 r4 hf W' q2 hl) k1 k2 k3 k4 k5 k6 k7 k8 T' _ X' e' (Fr.snoc X' N ge)
  exact ⟨s₂, v', L', k _ h1, h2⟩
theorem getD_range {f : Nat → Int32} {m n : Nat} (h : m < n) : ((List.range n).map fun i => Value.int (f i)).getD m (.int 0) = .int (f m) := by
  simp [List.getD_eq_getElem?_getD, h]
theorem Ari.arv {a : Addr} {ty : FieldType} {n : Nat} {g : Nat → Int32} (A : Ari Z h a ty n g) : ∃ (k : ClassId) (z : Int32), z.toNatClampNeg = n ∧ Arv Z h a k ty z ((List.range n).map fun i => Value.int (g i)) (.int 0) := by
  obtain ⟨c, A, r1, r2, r3, r4⟩ := A
  have e1 : n.toInt32.toInt = (n : Int) := len_toInt r2
  have e0 : (0 : Int32).toInt = 0 := rfl
  have e2 : n.toInt32.toNatClampNeg = n := by simp only [Int32.toNatClampNeg, e1]; omega
  refine ⟨c.cls, n.toInt32, e2, c, A, rfl, by rw [e2]; exact r1, by rw [Int32.lt_iff_toInt_lt, e1, e0]; omega, fun i hi => ?_, fun i hi => ?_⟩
  · rw [r1] at hi; rw [getD_range hi]; exact r3 i hi
  · rw [r1] at hi; rw [getD_range hi]; exact r4 i hi
/-- n elements of f from sp on, laid into g from dp on -/
def blit (f g : Nat → Int32) (sp dp n : Nat) : Nat → Int32 := fun k => if dp ≤ k ∧ k < dp + n then f (sp + (k - dp)) else g k
theorem WP.arraycopy {i : Nat} {a b : Addr} {ty : FieldType} {na nb sp dp nn wd : Nat} {zs zd zn : Int32} {f g : Nat → Int32} (hd : decode code pc = .ok (.invokestatic i, 3)) (hp : pc + 3 = pc') (w1 : (Jvm.Cond.methodLink own i Jvm.Stand.acN).before a0 Z = true) (w2 : (Jvm.Cond.native Jvm.Stand.acN).before a0 Z = true) (w3 : (Jvm.Cond.static Jvm.Stand.acN).before a0 Z = true) (w4 : (Jvm.Cond.initialized "java/lang/System").before a0 Z = true) (A : Ari Z h a ty na f) (B : Ari Z h b ty nb g) (hty : refKind ty = false) (hs1 : zs.toInt = (sp : Int)) (hd1 : zd.toInt = (dp : Int)) (hn1 : zn.toInt = (nn : Int)) (h4 : sp + nn ≤ na) (h5 : dp + nn ≤ nb) (ge : n0 ≤ b) (hml : Ls.size = ml) (hf : 1 ≤ R.frames) (hw : (st.map fun v => v.category).sum ≤ wd) (hlo : wd + (nativeFrameWords "java/lang/System" "arraycopy" 5 + 11) ≤ R.locals)
    (hr : ∀ h', Keep h h' [b] → Ari Z h' b ty nb (blit f g sp dp nn) → WP C Z code ml own rt nm R n0 Q cl sl h' pc' Ls st) : WP C Z code ml own rt nm R n0 Q cl sl h pc Ls (.int zn :: .int zd :: .ref b :: .int zs :: .ref a :: st) := by
  subst hp
  obtain ⟨ka, za, ea, A'⟩ := A.arv
  obtain ⟨kb, zb, eb, B'⟩ := B.arv
  have hsm := B.small
  have e0 : (0 : Int32).toInt = 0 := rfl
  have q1 : zs.toNatClampNeg = sp := by simp only [Int32.toNatClampNeg, hs1]; omega
  have q2 : zd.toNatClampNeg = dp := by simp only [Int32.toNatClampNeg, hd1]; omega
  have q3 : zn.toNatClampNeg = nn := by simp only [Int32.toNatClampNeg, hn1]; omega
  intro k1 k2 k3 k4 k5 k6 k7 k8 T locs X e N
  obtain ⟨T', h', L', X', e', N', K', V', k⟩ := cpA X k1 k5 k4 w1 w2 w3 w4 e (sp := zs) (dp := zd) (nn := zn) A' B' (Or.inl ⟨rfl, hty⟩) (by rw [Int32.lt_iff_toInt_lt, hs1, e0]; omega) (by rw [Int32.lt_iff_toInt_lt, hd1, e0]; omega) (by rw [Int32.lt_iff_toInt_lt, hn1, e0]; omega) (by rw [q1, q3, ea]; exact h4) (by rw [q2, q3, eb]; exact h5) rfl (by rw [q2, q3, List.length_map, List.length_range]; exact h5) N ge (g := mkF _ pc Ls (.int zn :: .int zd :: .ref b :: .int zs :: .ref a :: st)) rfl (by rw [k3]; exact hml) rfl (hb k2 hd) hf (W := wd) (by show 2 * 0 + _ ≤ _; omega) hlo
  rw [q1, q2, q3] at V'
  have VV : Ari Z h' b ty nb (blit f g sp dp nn) := by
    obtain ⟨c, A, r1, r2, r3, H, G⟩ := V'
    rw [eb] at r2
    have key : ∀ i, i < nb → (((List.range nb).map fun i => Value.int (g i)).take dp ++ (List.range nn).map (fun i => ((List.range na).map fun i => Value.int (f i)).getD (sp + i) (.int 0)) ++ ((List.range nb).map fun i => Value.int (g i)).drop (dp + nn)).getD i (.int 0) = .int (blit f g sp dp nn i) := by
      intro i hi
      simp only [List.getD_eq_getElem?_getD, blit]
      by_cases c1 : i < dp
      · rw [List.append_assoc, List.getElem?_append_left (by simp; omega), if_neg (by omega)]; simp [List.getElem?_take, c1, hi]
      · by_cases c2 : i < dp + nn
        · rw [List.getElem?_append_left (by simp; omega), List.getElem?_append_right (by simp; omega), if_pos (by omega)]
          have z1 : min dp nb = dp := by omega
          have z2 : i - dp < nn := by omega
          have z3 : sp + (i - dp) < na := by omega
          simp [z1, z2, z3]
        · rw [List.getElem?_append_right (by simp; omega), if_neg (by omega)]
          have z1 : min dp nb = dp := by omega
          have z2 : dp + nn + (i - (dp + nn)) = i := by omega
          simp [z1, z2, hi]
    exact ⟨c, A, r2, hsm, fun i hi => by rw [H i (by rw [r2]; exact hi), key i hi], fun i hi => by have := G i (by rw [r2]; exact hi); rw [key i hi] at this; exact this⟩
  obtain ⟨s₂, v', L2, h1, h2⟩ := hr h' K' VV k1 k2 k3 k4 k5 k6 k7 k8 T' _ X' e' N'
  exact ⟨s₂, v', L2, k _ h1, h2⟩
theorem WP.initO {i : Nat} {a : Addr} {wd : Nat} (hd : decode code pc = .ok (.invokespecial i, 3)) (hp : pc + 3 = pc') (w1 : (Jvm.Cond.methodLink own i Lib.objectInit).before a0 Z = true) (w2 : (Jvm.Cond.instanceMethod Lib.objectInit).before a0 Z = true) (w3 : (Jvm.Cond.code Lib.objectInit ⟨#[0xb1]⟩ 1 none).before a0 Z = true) (hml : Ls.size = ml) (hf : 1 ≤ R.frames) (hw : (st.map fun v => v.category).sum ≤ wd) (hl : wd + 12 ≤ R.locals) (hr : WP C Z code ml own rt nm R n0 Q cl sl h pc' Ls st) : WP C Z code ml own rt nm R n0 Q cl sl h pc Ls (.ref a :: st) := by
  subst hp
  refine hr.step fun X hx hby hml' hown hZ hnm eT N => ?_
  obtain ⟨T', X', e', k⟩ := RoadKit.initO X hx hZ hown w1 w2 w3 eT (g := mkF _ pc Ls (.ref a :: st)) rfl (by rw [hml']; exact hml) rfl (hb hby hd) hf (W := wd) (by show 2 * 0 + _ ≤ _; omega) hl
  exact ⟨T', _, X', e', N, fun t q => k t q⟩
theorem WP.callS {i : Nat} {y : MethodName} {code' : ByteArray} {ml' wd cl' sl' : Nat} {rt' : Option FieldType} {R' : Room} {Q' : Option Value → Heap → Prop} {argsL rest : List Value} {ps : List FieldType} {rr : Option FieldType} (hd : decode code pc = .ok (.invokestatic i, 3)) (hp : pc + 3 = pc') (w1 : (Jvm.Cond.methodLink own i y).before a0 Z = true) (w2 : (Jvm.Cond.static y).before a0 Z = true) (w3 : (Jvm.Cond.initialized y.cls).before a0 Z = true) (w4 : (Jvm.Cond.code y code' ml' rt').before a0 Z = true) (hy : y.cls ≠ "java/lang/invoke/MethodHandle" ∧ y.cls ≠ "java/lang/invoke/VarHandle") (hM : ∀ l, Does l Z y code' ml' rt' R' n0 argsL.toArray h Q') (hpd : parseMethodDescriptor y.desc = some ⟨ps, rr⟩) (hlen : argsL.length = ps.length) (hst : st = argsL.reverse ++ rest) (hml : Ls.size = ml) (hw : (rest.map fun v => v.category).sum ≤ wd) (hrm : R'.frames + 1 ≤ R.frames) (hlo : wd + (ml' + 11) + R'.locals ≤ R.locals) (hc : cl + R'.cells = cl') (hs : sl + R'.slots = sl') (hc' : cl' ≤ R.cells) (hs' : sl' ≤ R.slots)
    (hr : ∀ v h', Q' v h' → WP C Z code ml own rt nm R n0 Q cl' sl' h' pc' Ls (v.toList ++ rest)) : WP C Z code ml own rt nm R n0 Q cl sl h pc Ls st := by
  subst hp hc hs
  intro k1 k2 k3 k4 k5 k6 k7 k8 T locs X e N
  obtain ⟨v, _, ⟨T', L', c', n'⟩, -, X', ⟨Lc, hQ, l1, y1, z1⟩, k⟩ := Jvm.LawKit.callS X k1 (y := y) k4 (mvT k5 w1) (mvT k5 w2) (mvT k5 w3) (mvT k5 w4) hy (backOf (W := wd) (Q := fun v h L => Q' v h ∧ Fr n0 L) (hM _ []) k5 w4 w3 hrm hlo) (g := mkF _ pc Ls st) rfl (by rw [k3]; exact hml) (argsL := argsL) (rest := rest) (lenOf hpd hlen) hst (by show 2 * 0 + _ ≤ _; omega) (hb k2 hd) (fun _ _ => ⟨rfl, e, hc', hs'⟩)
  dsimp only [Pt.U, Pt.locs, Pt.cells, Pt.slots] at X' l1 y1 z1 k hQ
  subst l1 y1 z1
  obtain ⟨s₂, v', L2, h1, h2⟩ := hr v _ hQ.1 k1 k2 k3 k4 k5 k6 k7 k8 T' _ X' rfl (Fr.app N hQ.2)
  exact ⟨s₂, v', L2, k _ h1, h2⟩
theorem WP.callI {a : Addr} {i : Nat} {y : MethodName} {code' : ByteArray} {ml' wd cl' sl' : Nat} {R' : Room} {Q' : Option Value → Heap → Prop} {argsL rest : List Value} {ps : List FieldType} {rr : Option FieldType} (hd : decode code pc = .ok (.invokespecial i, 3)) (hp : pc + 3 = pc') (hy1 : y.name = "<init>") (w1 : (Jvm.Cond.methodLink own i y).before a0 Z = true) (w2 : (Jvm.Cond.instanceMethod y).before a0 Z = true) (w3 : (Jvm.Cond.initialized y.cls).before a0 Z = true) (w4 : (Jvm.Cond.code y code' ml' none).before a0 Z = true) (hy : y.cls ≠ "java/lang/invoke/MethodHandle" ∧ y.cls ≠ "java/lang/invoke/VarHandle") (hM : ∀ l, Does l Z y code' ml' none R' n0 (.ref a :: argsL).toArray h Q') (hpd : parseMethodDescriptor y.desc = some ⟨ps, rr⟩) (hlen : argsL.length = ps.length) (hst : st = argsL.reverse ++ .ref a :: rest) (hml : Ls.size = ml) (hw : (rest.map fun v => v.category).sum ≤ wd) (hrm : R'.frames + 1 ≤ R.frames) (hlo : wd + (ml' + 11) + R'.locals ≤ R.locals) (hc : cl + R'.cells = cl') (hs : sl + R'.slots = sl') (hc' : cl' ≤ R.cells) (hs' : sl' ≤ R.slots)
    (hr : ∀ v h', Q' v h' → WP C Z code ml own rt nm R n0 Q cl' sl' h' pc' Ls (v.toList ++ rest)) : WP C Z code ml own rt nm R n0 Q cl sl h pc Ls st := by
  subst hp hc hs
  intro k1 k2 k3 k4 k5 k6 k7 k8 T locs X e N
  obtain ⟨v, _, ⟨T', L', c', n'⟩, -, X', ⟨Lc, hQ, l1, y1, z1⟩, k⟩ := X.specialBack k1 (y := y) hy1 k4 (mvT k5 w1) (mvT k5 w2) (mvT k5 w4) hy (backOf (W := wd) (Q := fun v h L => Q' v h ∧ Fr n0 L) (hM _ []) k5 w4 w3 hrm hlo) (g := mkF _ pc Ls st) rfl (by rw [k3]; exact hml) (Steps.refl _) (a := a) (argsL := argsL) (rest := rest) (lenOf hpd hlen) hst (by show 2 * 0 + _ ≤ _; omega) (hb k2 hd) (fun _ _ => ⟨rfl, e, hc', hs'⟩)
  dsimp only [Pt.U, Pt.locs, Pt.cells, Pt.slots] at X' l1 y1 z1 k hQ
  subst l1 y1 z1
  obtain ⟨s₂, v', L2, h1, h2⟩ := hr v _ hQ.1 k1 k2 k3 k4 k5 k6 k7 k8 T' _ X' rfl (Fr.app N hQ.2)
  exact ⟨s₂, v', L2, k.trans h1, h2⟩
theorem WP.callV {a : Addr} {z : MethodName} {K : String} {i : Nat} {y : MethodName} {code' : ByteArray} {ml' wd cl' sl' : Nat} {rt' : Option FieldType} {R' : Room} {Q' : Option Value → Heap → Prop} {argsL rest : List Value} {ps : List FieldType} {rr : Option FieldType} (hd : decode code pc = .ok (.invokevirtual i, 3)) (hp : pc + 3 = pc') (w1 : (Jvm.Cond.methodLink own i y).before a0 Z = true) (wd1 : (Jvm.Cond.declares y).before a0 Z = true) (hnf : ∀ s : State, Z.Warmed39 s.vm → NotFace s y) (ws : (Jvm.Cond.selects K y z).before a0 Z = true) (w2 : (Jvm.Cond.instanceMethod z).before a0 Z = true) (w3 : (Jvm.Cond.initialized z.cls).before a0 Z = true) (w4 : (Jvm.Cond.code z code' ml' rt').before a0 Z = true) (hy : y.cls ≠ "java/lang/invoke/MethodHandle" ∧ y.cls ≠ "java/lang/invoke/VarHandle") (E : Exa Z h a K) (hM : ∀ l, Does l Z z code' ml' rt' R' n0 (.ref a :: argsL).toArray h Q') (hpd : parseMethodDescriptor y.desc = some ⟨ps, rr⟩) (hlen : argsL.length = ps.length) (hst : st = argsL.reverse ++ .ref a :: rest) (hml : Ls.size = ml) (hw : (rest.map fun v => v.category).sum ≤ wd) (hrm : R'.frames + 1 ≤ R.frames) (hlo : wd + (ml' + 11) + R'.locals ≤ R.locals) (hc : cl + R'.cells = cl') (hs : sl + R'.slots = sl') (hc' : cl' ≤ R.cells) (hs' : sl' ≤ R.slots)
    (hr : ∀ v h', Q' v h' → WP C Z code ml own rt nm R n0 Q cl' sl' h' pc' Ls (v.toList ++ rest)) : WP C Z code ml own rt nm R n0 Q cl sl h pc Ls st := by
  subst hp hc hs
  intro k1 k2 k3 k4 k5 k6 k7 k8 T locs X e N
  obtain ⟨cq, kq, q1, q2, q3⟩ := isOf k5 e E
  obtain ⟨v, _, ⟨T', L', c', n'⟩, -, X', ⟨Lc, hQ, l1, y1, z1⟩, k⟩ := X.virtualBack k1 (y := y) (z := z) k4 (mvT k5 w1) (mvT k5 wd1) (hnf _ k5) (mvT k5 ws) (mvT k5 w2) hy (backOf (W := wd) (Q := fun v h L => Q' v h ∧ Fr n0 L) (hM _ []) k5 w4 w3 hrm hlo) q1 q3 (g := mkF _ pc Ls st) rfl (by rw [k3]; exact hml) (Steps.refl _) (argsL := argsL) (rest := rest) (lenOf hpd hlen) hst (by show 2 * 0 + _ ≤ _; omega) (hb k2 hd) (fun _ _ => ⟨rfl, e, hc', hs'⟩)
  dsimp only [Pt.U, Pt.locs, Pt.cells, Pt.slots] at X' l1 y1 z1 k hQ
  subst l1 y1 z1
  obtain ⟨s₂, v', L2, h1, h2⟩ := hr v _ hQ.1 k1 k2 k3 k4 k5 k6 k7 k8 T' _ X' rfl (Fr.app N hQ.2)
  exact ⟨s₂, v', L2, k.trans h1, h2⟩
theorem nfS {y z : MethodName} {K : String} (ws : (Jvm.Cond.selects K y z).before a0 Z = true) (e : y = z) : ∀ s : State, Z.Warmed39 s.vm → NotFace s y := by subst e; exact fun s k => notFace_of_selects (args := #[]) (mvT k ws)
theorem WP.callP {a : Addr} {K : String} {i : Nat} {y : MethodName} {code' : ByteArray} {ml' wd cl' sl' : Nat} {rt' : Option FieldType} {R' : Room} {Q' : Option Value → Heap → Prop} {argsL rest : List Value} {ps : List FieldType} {rr : Option FieldType} (hd : decode code pc = .ok (.invokevirtual i, 3)) (hp : pc + 3 = pc') (w1 : (Jvm.Cond.methodLink own i y).before a0 Z = true) (w2 : (Jvm.Cond.instanceMethod y).before a0 Z = true) (ws : (Jvm.Cond.selects y.cls y y).before a0 Z = true) (wp : (Jvm.Cond.privateMethod y).before a0 Z = true) (w3 : (Jvm.Cond.initialized y.cls).before a0 Z = true) (w4 : (Jvm.Cond.code y code' ml' rt').before a0 Z = true) (hy : y.cls ≠ "java/lang/invoke/MethodHandle" ∧ y.cls ≠ "java/lang/invoke/VarHandle") (E : Exa Z h a K) (hM : ∀ l, Does l Z y code' ml' rt' R' n0 (.ref a :: argsL).toArray h Q') (hpd : parseMethodDescriptor y.desc = some ⟨ps, rr⟩) (hlen : argsL.length = ps.length) (hst : st = argsL.reverse ++ .ref a :: rest) (hml : Ls.size = ml) (hw : (rest.map fun v => v.category).sum ≤ wd) (hrm : R'.frames + 1 ≤ R.frames) (hlo : wd + (ml' + 11) + R'.locals ≤ R.locals) (hc : cl + R'.cells = cl') (hs : sl + R'.slots = sl') (hc' : cl' ≤ R.cells) (hs' : sl' ≤ R.slots)
    (hr : ∀ v h', Q' v h' → WP C Z code ml own rt nm R n0 Q cl' sl' h' pc' Ls (v.toList ++ rest)) : WP C Z code ml own rt nm R n0 Q cl sl h pc Ls st := by
  subst hp hc hs
  intro k1 k2 k3 k4 k5 k6 k7 k8 T locs X e N
  obtain ⟨cq, q1, q2⟩ := E.cell
  obtain ⟨v, _, ⟨T', L', c', n'⟩, -, X', ⟨Lc, hQ, l1, y1, z1⟩, k⟩ := X.privateBack k1 (y := y) k4 (mvT k5 w1) (mvT k5 w2) (mvT k5 ws) (Cond.privateMethod_at (mvP k5 wp (args := #[]))) (mvT k5 w4) hy (backOf (W := wd) (Q := fun v h L => Q' v h ∧ Fr n0 L) (hM _ []) k5 w4 w3 hrm hlo) (g := mkF _ pc Ls st) rfl (by rw [k3]; exact hml) (Steps.refl _) (a := a) (by rw [e]; exact q1) q2 (argsL := argsL) (rest := rest) (lenOf hpd hlen) hst (by show 2 * 0 + _ ≤ _; omega) (hb k2 hd) (fun _ _ => ⟨rfl, e, hc', hs'⟩)
  dsimp only [Pt.U, Pt.locs, Pt.cells, Pt.slots] at X' l1 y1 z1 k hQ
  subst l1 y1 z1
  obtain ⟨s₂, v', L2, h1, h2⟩ := hr v _ hQ.1 k1 k2 k3 k4 k5 k6 k7 k8 T' _ X' rfl (Fr.app N hQ.2)
  exact ⟨s₂, v', L2, k.trans h1, h2⟩
theorem WP.iret {z : Int32} (hd : decode code pc = .ok (.ireturn, 1)) (hrt : rt = some .int) (hc : cl ≤ R.cells) (hs : sl ≤ R.slots) (hq : Q (some (.int z)) h) : WP C Z code ml own rt nm R n0 Q cl sl h pc Ls (.int z :: st) := by
  intro k1 k2 k3 k4 k5 k6 k7 k8 T locs X e N
  obtain ⟨fs, hr', hrun, hended, hW, hsame⟩ := X.leave (v := some (.int z)) (fun q => by rw [k6, hrt] at q; cases q) k7
  exact ⟨_, _, _, retOut X k1 (t := .int) (k6.trans hrt) rfl (Or.inl ⟨rfl, Or.inl rfl, _, rfl⟩) (hb k2 hd) hr', hrun, hended, by show Q _ T.heap; rw [e]; exact hq, N, ⟨_, rfl⟩, hW, hsame.mono hc hs⟩
theorem WP.lret {z : Int64} (hd : decode code pc = .ok (.lreturn, 1)) (hrt : rt = some .long) (hc : cl ≤ R.cells) (hs : sl ≤ R.slots) (hq : Q (some (.long z)) h) : WP C Z code ml own rt nm R n0 Q cl sl h pc Ls (.long z :: st) := by
  intro k1 k2 k3 k4 k5 k6 k7 k8 T locs X e N
  obtain ⟨fs, hr', hrun, hended, hW, hsame⟩ := X.leave (v := some (.long z)) (fun q => by rw [k6, hrt] at q; cases q) k7
  exact ⟨_, _, _, retOut X k1 (t := .long) (k6.trans hrt) rfl (Or.inr (Or.inl ⟨rfl, rfl, _, rfl⟩)) (hb k2 hd) hr', hrun, hended, by show Q _ T.heap; rw [e]; exact hq, N, ⟨_, rfl⟩, hW, hsame.mono hc hs⟩
theorem WP.dret {z : UInt64} (hd : decode code pc = .ok (.dreturn, 1)) (hrt : rt = some .double) (hc : cl ≤ R.cells) (hs : sl ≤ R.slots) (hq : Q (some (.double z)) h) : WP C Z code ml own rt nm R n0 Q cl sl h pc Ls (.double z :: st) := by
  intro k1 k2 k3 k4 k5 k6 k7 k8 T locs X e N
  obtain ⟨fs, hr', hrun, hended, hW, hsame⟩ := X.leave (v := some (.double z)) (fun q => by rw [k6, hrt] at q; cases q) k7
  exact ⟨_, _, _, retOut X k1 (t := .double) (k6.trans hrt) rfl (Or.inr (Or.inr (Or.inl ⟨rfl, rfl, _, rfl⟩))) (hb k2 hd) hr', hrun, hended, by show Q _ T.heap; rw [e]; exact hq, N, ⟨_, rfl⟩, hW, hsame.mono hc hs⟩
theorem WP.aret {z : Value} (hd : decode code pc = .ok (.areturn, 1)) {t : FieldType} (hrt : rt = some t) (ht : t.isReference = true) (hv : z.isRef = true) (hc : cl ≤ R.cells) (hs : sl ≤ R.slots) (hq : Q (some z) h) : WP C Z code ml own rt nm R n0 Q cl sl h pc Ls (z :: st) := by
  intro k1 k2 k3 k4 k5 k6 k7 k8 T locs X e N
  obtain ⟨fs, hr', hrun, hended, hW, hsame⟩ := X.leave (v := some z) (fun q => by rw [k6, hrt] at q; cases q) k7
  exact ⟨_, _, _, retOut X k1 (t := t) (k6.trans hrt) (by cases t <;> first | (cases ht; done) | rfl) (Or.inr (Or.inr (Or.inr (Or.inr ⟨rfl, ht, hv⟩)))) (hb k2 hd) hr', hrun, hended, by show Q _ T.heap; rw [e]; exact hq, N, ⟨_, rfl⟩, hW, hsame.mono hc hs⟩
theorem WP.nret {z : Int32} (hd : decode code pc = .ok (.ireturn, 1)) {t : FieldType} {z' : Int32} (hrt : rt = some t) (ht : t = .boolean ∨ t = .byte ∨ t = .char ∨ t = .short) (hz : nar t z = z') (hc : cl ≤ R.cells) (hs : sl ≤ R.slots) (hq : Q (some (.int z')) h) : WP C Z code ml own rt nm R n0 Q cl sl h pc Ls (.int z :: st) := by
  intro k1 k2 k3 k4 k5 k6 k7 k8 T locs X e N
  obtain ⟨fs, hr', hrun, hended, hW, hsame⟩ := X.leave (v := some (.int z')) (fun q => by rw [k6, hrt] at q; cases q) k7
  exact ⟨_, _, _, retN X k1 (t := t) (k6.trans hrt) ht (hb k2 hd) (by rw [hz]; exact hr'), hrun, hended, by show Q _ T.heap; rw [e]; exact hq, N, ⟨_, rfl⟩, hW, hsame.mono hc hs⟩
theorem WP.vret (hd : decode code pc = .ok (.return_, 1)) (hrt : rt = none) (hc : cl ≤ R.cells) (hs : sl ≤ R.slots) (hq : Q none h) : WP C Z code ml own rt nm R n0 Q cl sl h pc Ls [] := by
  intro k1 k2 k3 k4 k5 k6 k7 k8 T locs X e N
  obtain ⟨fs, hr', hrun, hended, hW, hsame⟩ := X.leave (v := none) (fun _ => rfl) k7
  exact ⟨_, _, _, X.returnOut k1 (k6.trans hrt) (hb k2 hd) hr', hrun, hended, by show Q _ T.heap; rw [e]; exact hq, N, ⟨_, rfl⟩, hW, hsame.mono hc hs⟩
end Rules
end Jvm.WK
namespace Jvm.WK
open Jvm Sem ClassFile Op Lib Jvm.Free Jvm.Stand Jvm.LawKit Jvm.RoadKit
def b2i (b : Bool) : Int32 := if b then 1 else 0
theorem b2i_t {P : Prop} [Decidable P] (h : P) : some (Value.int 1) = some (Value.int (b2i (decide P))) := by rw [decide_eq_true h]; rfl
theorem b2i_f {P : Prop} [Decidable P] (h : ¬ P) : some (Value.int 0) = some (Value.int (b2i (decide P))) := by rw [decide_eq_false h]; rfl
theorem b2i_congr {P P' : Prop} [Decidable P] [Decidable P'] (h : P ↔ P') : b2i (decide P) = b2i (decide P') := by rw [decide_eq_decide.mpr h]
theorem b2i_1 {b : Bool} : b2i b = 1 ↔ b = true := by cases b <;> simp [b2i]
theorem b2i_0 {b : Bool} : b2i b = 0 ↔ b = false := by cases b <;> simp [b2i]
theorem b2i_one (b : Bool) : b2i b &&& 1 = b2i b := by cases b <;> rfl
theorem eqInt_v {args : Array Value} {first s : State} {o : Option Outcome} {idx : List Nat} {t : Term} {k : Int32} (h : (Jvm.Cond.eq t (.int k)).value args first o s idx = some true) : t.eval args first o idx s = some (.int k) := by
  obtain ⟨x, y, e1, e2, k1, k2⟩ := cmp_v (Or.inl h)
  have e3 : y = .int k := by simpa [Term.eval] using e2.symm
  subst e3
  obtain ⟨z, rfl⟩ := k2
  simp [Cond.value, e1, Term.eval] at h
  rw [e1, h]
theorem Sta.of_exa {args : Array Value} {s : State} {C n d K : String} (h : (Jvm.Cond.exactly (.static C n d) K).value args s none s [] = some true) (hi : (Jvm.Cond.initializedFor C n d).before args s = true ∨ ((Jvm.Cond.initialized C).before args s = true ∧ (Jvm.Cond.laysStatic C n d).before args s = true)) :
    ∃ a, (Term.static C n d).eval args s none [] s = some (.ref a) ∧ Sta s s.heap C n d (.ref a) ∧ Exa s s.heap a K := by
  obtain ⟨a, e⟩ := exa_v h
  exact ⟨a, e, Sta.start e hi, Exa.start e h⟩
theorem Fld.of_eq {args : Array Value} {s : State} {t : Term} {a : Addr} {C n d : String} {k : Int32} (e : t.eval args s none [] s = some (.ref a)) (h : (Jvm.Cond.eq (.field t C n d) (.int k)).value args s none s [] = some true) : Fld s s.heap a C n d (.int k) := by
  have q := eqInt_v h
  rw [fld_at e] at q
  exact Fld.start q
theorem Ari.of_start {s : State} {a : Addr} {c : Cell} {ty : FieldType} (hf : Fit s) (A : Arr s s.heap a c ty) (ht : ty = .int ∨ ty = .boolean ∨ ty = .byte ∨ ty = .char ∨ ty = .short) (hsz : c.slots.size < 2147483648) :
    ∃ g : Nat → Int32, Ari s s.heap a ty c.slots.size g ∧ ∀ i x, c.slots[i]? = some (.int x) → g i = x := by
  have key : ∀ i, i < c.slots.size → ∃ x, c.slots[i]? = some (.int x) ∧ fits ty (.int x) = true := by
    intro i hi
    have e1 : i.toInt32.toInt = (i : Int) := len_toInt (show i < 2 ^ 31 by omega)
    have e : i.toInt32.toNatClampNeg = i := by simp only [Int32.toNatClampNeg, e1]; omega
    obtain ⟨v, h1, h2⟩ := elem_fit (j := i.toInt32) hf A (idx_in hi (show c.slots.size < 2 ^ 31 by omega))
    obtain ⟨x, rfl⟩ := fit_I h2 ht
    rw [e] at h1
    exact ⟨x, h1, h2⟩
  refine ⟨fun i => match c.slots[i]? with | some (.int x) => x | _ => 0, ⟨c, A, rfl, hsz, fun i hi => ?_, fun i hi => ?_⟩, fun i x h => by simp only [h]⟩
  · obtain ⟨x, h1, -⟩ := key i hi; simp only [h1]
  · obtain ⟨x, h1, h2⟩ := key i hi; simp only [h1]; exact h2
theorem len_small {args : Array Value} {first s : State} {o : Option Outcome} {idx : List Nat} {t : Term} {v : Value} {a : Addr} {c : Cell} (h : (Term.length t).eval args first o idx s = some v) (ht : t.eval args first o idx s = some (.ref a)) (ha : s.arrayAt? a = some c) : c.slots.size < 2 ^ 31 := by
  simp only [Term.eval, ht, ha, Option.bind_eq_bind, Option.bind_some] at h
  split at h
  · assumption
  · cases h
/-- an array that a static holds, pinned by a case's words -/
theorem Ari.of_static {s : State} {args : Array Value} {C n d : String} {ty : FieldType} {N : Int32} {k : Nat} (hf : Fit s) (hA : (Jvm.Cond.arrayOf (.static C n d) ty).value args s none s [] = some true) (hL : (Jvm.Cond.eq (.length (.static C n d)) (.int N)).value args s none s [] = some true)
    (ht : ty = .int ∨ ty = .boolean ∨ ty = .byte ∨ ty = .char ∨ ty = .short) (hi : (Jvm.Cond.initializedFor C n d).before args s = true ∨ ((Jvm.Cond.initialized C).before args s = true ∧ (Jvm.Cond.laysStatic C n d).before args s = true)) (hN : N.toInt = (k : Int)) :
    ∃ (a : Addr) (g : Nat → Int32), Sta s s.heap C n d (.ref a) ∧ Ari s s.heap a ty k g ∧
      (∀ (j x : Int32) (i : Nat), (Jvm.Cond.eq (.elem (.static C n d) (.int j)) (.int x)).value args s none s [] = some true → j.toInt = (i : Int) → g i = x) ∧
      (∀ c : Jvm.Cond, (Jvm.Cond.all (.static C n d) c).value args s none s [] = some true → ∀ i, i < k → c.value args s none s [i] = some true) ∧
      (∀ (i : Nat) (x : Int32), i < k → (Jvm.Cond.eq (.elem (.static C n d) (.index 0)) (.int x)).value args s none s [i] = some true → g i = x) := by
  obtain ⟨a, e⟩ := arr_v hA
  obtain ⟨c, A⟩ := Arr.start e hA
  have eL := eqInt_v hL
  have hat : s.arrayAt? a = some c := A.fin (Vm.Alike.refl _)
  have hsz : c.slots.size < 2 ^ 31 := len_small eL e hat
  obtain ⟨a', c', q1, q2, q3⟩ := Term.length_spec eL
  cases e.symm.trans q1
  cases hat.symm.trans q2
  have hk : c.slots.size = k := by
    have z := congrArg Int32.toInt (Value.int.inj q3)
    rw [len_toInt hsz] at z
    omega
  obtain ⟨g, G, hg⟩ := Ari.of_start hf A ht hsz
  rw [hk] at G
  refine ⟨a, g, Sta.start e hi, G, fun j x i h hj => ?_, fun c0 h i hi => Cond.all_elim e hat h i (by omega), fun i x hi h => ?_⟩
  · obtain ⟨h1, h2⟩ := elem_in (eqInt_v h) e (show (Term.int j).eval args s none [] s = some (.int j) from rfl) A.1
    have ej : j.toNatClampNeg = i := by simp only [Int32.toNatClampNeg, hj]; omega
    rw [ej] at h2
    exact hg i x h2
  · have e2 : (Term.static C n d).eval args s none [i] s = some (.ref a) := e
    obtain ⟨h1, h2⟩ := elem_in (eqInt_v h) e2 (show (Term.index 0).eval args s none [i] s = some (.int i.toInt32) from rfl) A.1
    have e1 : i.toInt32.toInt = (i : Int) := len_toInt (show i < 2 ^ 31 by omega)
    have ej : i.toInt32.toNatClampNeg = i := by simp only [Int32.toNatClampNeg, e1]; omega
    rw [ej] at h2
    exact hg i x h2
theorem idx_lt {args : Array Value} {s : State} {i : Nat} {lo : Int32} (hi : i < 2147483648) : (Jvm.Cond.lt (.index 0) (.int lo)).value args s none s [i] = some (decide ((i : Int) < lo.toInt)) := by
  have e1 : i.toInt32.toInt = (i : Int) := len_toInt (show i < 2 ^ 31 by omega)
  rw [Cond.lt_ints (x := i.toInt32) (y := lo) rfl rfl, Option.some.injEq, decide_eq_decide, Int32.lt_iff_toInt_lt, e1]
theorem idx_le {args : Array Value} {s : State} {i : Nat} {hi : Int32} (h : i < 2147483648) : (Jvm.Cond.le (.int hi) (.index 0)).value args s none s [i] = some (decide (hi.toInt ≤ (i : Int))) := by
  have e1 : i.toInt32.toInt = (i : Int) := len_toInt (show i < 2 ^ 31 by omega)
  rw [Cond.le_ints (x := hi) (y := i.toInt32) rfl rfl, Option.some.injEq, decide_eq_decide, Int32.le_iff_toInt_le, e1]
theorem or_v {args : Array Value} {first s : State} {o : Option Outcome} {idx : List Nat} {G X : Jvm.Cond} {P : Prop} [Decidable P] (h : (Jvm.Cond.or G X).value args first o s idx = some true) (h1 : G.value args first o s idx = some (decide P)) : P ∨ X.value args first o s idx = some true := by
  by_cases p : P
  · exact Or.inl p
  · rw [Cond.or_of_right (nay h1 p)] at h; exact Or.inr h
end Jvm.WK
namespace Jvm.Pilot.@@N@@
open Jvm Jvm.ClassFile Sem Op Lib Jvm.Free Jvm.Stand Jvm.LawKit Jvm.RoadKit Bundle Jvm.WK Jvm.Pilot.@@N@@.Jvm.D
def maxI (x y : Int32) : Int32 := if x < y then y else x
def minI (x y : Int32) : Int32 := if y < x then y else x
theorem mm (x y : Int32) : (minI x y).toInt = min x.toInt y.toInt ∧ (maxI x y).toInt = max x.toInt y.toInt := by
  unfold minI maxI
  constructor <;> split <;> rename_i h <;> rw [Int32.lt_iff_toInt_lt] at h <;> omega
theorem r5 (x : Int32) : 0 ≤ ((x &&& 7) % 5).toInt ∧ ((x &&& 7) % 5).toInt ≤ 4 := by
  have h1 := c_mask x 7 3 (by decide) (by decide)
  have h2 := c_irem (x &&& 7) 5 5 rfl
  omega
theorem and3 (x : Int32) : 0 ≤ (x &&& 3).toInt ∧ (x &&& 3).toInt < 4 := by
  have h1 := c_mask x 3 2 (by decide) (by decide)
  omega
theorem adds {a b : Int32} {m n : Nat} (ha : a.toInt = m) (hb : b.toInt = n) (h : m + n < 100) : (a + b).toInt = ((m + n : Nat) : Int) := by
  have h1 := c_iadd a b
  have h2 := rng32 (a + b)
  omega
theorem subs {a b : Int32} {m n : Nat} (ha : a.toInt = m) (hb : b.toInt = n) (h : n ≤ m) (h' : m < 100) : (a - b).toInt = ((m - n : Nat) : Int) := by
  have h1 := c_isub a b
  have h2 := rng32 (a - b)
  omega
/-- the bytes from S on and those from O on are alike, n of them -/
def Sm (g g' : Nat → Int32) (S O n : Nat) : Prop := ∀ i : Nat, i < n → g (S + i) = g' (O + i)
theorem d_jdk_29_method_65_0 : decode jdk_29_method_65_code 0 = .ok (.iload_n 0, 1) := by decide +kernel
theorem d_jdk_29_method_65_1 : decode jdk_29_method_65_code 1 = .ok (.iload_n 1, 1) := by decide +kernel
theorem d_jdk_29_method_65_2 : decode jdk_29_method_65_code 2 = .ok (.if_icmp .lt 7, 3) := by decide +kernel
theorem d_jdk_29_method_65_9 : decode jdk_29_method_65_code 9 = .ok (.iload_n 1, 1) := by decide +kernel
theorem d_jdk_29_method_65_10 : decode jdk_29_method_65_code 10 = .ok (.ireturn, 1) := by decide +kernel
theorem d_jdk_29_method_65_5 : decode jdk_29_method_65_code 5 = .ok (.iload_n 0, 1) := by decide +kernel
theorem d_jdk_29_method_65_6 : decode jdk_29_method_65_code 6 = .ok (.goto 4, 3) := by decide +kernel
set_option maxRecDepth 65536 in
set_option maxHeartbeats 40000000 in
theorem m_max {Z : State} {a0 : Array Value} (hw : ∀ d ∈ tables_1, d.before a0 Z = true) (x : Int32) (y : Int32) (h0 : Heap) (n0 : Nat)  : ∀ l, Does l Z (⟨"java/lang/Math", "max", "(II)I"⟩ : MethodName) jdk_29_method_65_code 2 (some .int) ({ frames := 0, cells := 0, slots := 0, locals := 0 } : Room) n0 #[(.int x), (.int y)] h0 (fun v h => v = some (.int (maxI x y)) ∧ h = h0) := by
  intro l
  refine Does.of_wp (Jvm.Free.JP.mathPlain rfl (by decide +kernel)) (Ls := #[.val (.int x), .val (.int y)]) (fun m => by first | (simp [entryFrame, mkF, argsToLocals, Value.category]; done) | rfl) ?_
  intro C
  refine WP.iloadN (pc' := 1) d_jdk_29_method_65_0 rfl rfl ?_
  refine WP.iloadN (pc' := 2) d_jdk_29_method_65_1 rfl rfl ?_
  refine WP.icmp_lt (pc1 := 9) (pc2 := 5) d_jdk_29_method_65_2 (by decide) (by decide) rfl ?_ ?_
  · intro hc2
    refine WP.iloadN (pc' := 10) d_jdk_29_method_65_9 rfl rfl ?_
    refine WP.iret d_jdk_29_method_65_10 rfl (by decide) (by decide) ⟨by unfold maxI; rw [if_pos hc2], rfl⟩
  · intro hc2
    refine WP.iloadN (pc' := 6) d_jdk_29_method_65_5 rfl rfl ?_
    refine WP.goto (pc' := 10) d_jdk_29_method_65_6 (by decide) (by decide) ?_
    refine WP.iret d_jdk_29_method_65_10 rfl (by decide) (by decide) ⟨by unfold maxI; rw [if_neg hc2], rfl⟩
theorem d_jdk_29_method_69_0 : decode jdk_29_method_69_code 0 = .ok (.iload_n 0, 1) := by decide +kernel
theorem d_jdk_29_method_69_1 : decode jdk_29_method_69_code 1 = .ok (.iload_n 1, 1) := by decide +kernel
theorem d_jdk_29_method_69_2 : decode jdk_29_method_69_code 2 = .ok (.if_icmp .gt 7, 3) := by decide +kernel
theorem d_jdk_29_method_69_9 : decode jdk_29_method_69_code 9 = .ok (.iload_n 1, 1) := by decide +kernel
theorem d_jdk_29_method_69_10 : decode jdk_29_method_69_code 10 = .ok (.ireturn, 1) := by decide +kernel
theorem d_jdk_29_method_69_5 : decode jdk_29_method_69_code 5 = .ok (.iload_n 0, 1) := by decide +kernel
theorem d_jdk_29_method_69_6 : decode jdk_29_method_69_code 6 = .ok (.goto 4, 3) := by decide +kernel
set_option maxRecDepth 65536 in
set_option maxHeartbeats 40000000 in
theorem m_min {Z : State} {a0 : Array Value} (hw : ∀ d ∈ tables_1, d.before a0 Z = true) (x : Int32) (y : Int32) (h0 : Heap) (n0 : Nat)  : ∀ l, Does l Z (⟨"java/lang/Math", "min", "(II)I"⟩ : MethodName) jdk_29_method_69_code 2 (some .int) ({ frames := 0, cells := 0, slots := 0, locals := 0 } : Room) n0 #[(.int x), (.int y)] h0 (fun v h => v = some (.int (minI x y)) ∧ h = h0) := by
  intro l
  refine Does.of_wp (Jvm.Free.JP.mathPlain rfl (by decide +kernel)) (Ls := #[.val (.int x), .val (.int y)]) (fun m => by first | (simp [entryFrame, mkF, argsToLocals, Value.category]; done) | rfl) ?_
  intro C
  refine WP.iloadN (pc' := 1) d_jdk_29_method_69_0 rfl rfl ?_
  refine WP.iloadN (pc' := 2) d_jdk_29_method_69_1 rfl rfl ?_
  refine WP.icmp_gt (pc1 := 9) (pc2 := 5) d_jdk_29_method_69_2 (by decide) (by decide) rfl ?_ ?_
  · intro hc2
    refine WP.iloadN (pc' := 10) d_jdk_29_method_69_9 rfl rfl ?_
    refine WP.iret d_jdk_29_method_69_10 rfl (by decide) (by decide) ⟨by unfold minI; rw [if_pos hc2], rfl⟩
  · intro hc2
    refine WP.iloadN (pc' := 6) d_jdk_29_method_69_5 rfl rfl ?_
    refine WP.goto (pc' := 10) d_jdk_29_method_69_6 (by decide) (by decide) ?_
    refine WP.iret d_jdk_29_method_69_10 rfl (by decide) (by decide) ⟨by unfold minI; rw [if_neg hc2], rfl⟩
theorem d_method_3_0 : decode method_3_code 0 = .ok (.iload_n 0, 1) := by decide +kernel
theorem d_method_3_1 : decode method_3_code 1 = .ok (.iload_n 1, 1) := by decide +kernel
theorem d_method_3_2 : decode method_3_code 2 = .ok (.ishr, 1) := by decide +kernel
theorem d_method_3_3 : decode method_3_code 3 = .ok (.iconst 1, 1) := by decide +kernel
theorem d_method_3_4 : decode method_3_code 4 = .ok (.iand, 1) := by decide +kernel
theorem d_method_3_5 : decode method_3_code 5 = .ok (.ifCond .eq 12, 3) := by decide +kernel
theorem d_method_3_17 : decode method_3_code 17 = .ok (.aload 4, 2) := by decide +kernel
theorem d_method_3_19 : decode method_3_code 19 = .ok (.iload_n 1, 1) := by decide +kernel
theorem d_method_3_20 : decode method_3_code 20 = .ok (.iload 5, 2) := by decide +kernel
theorem d_method_3_22 : decode method_3_code 22 = .ok (.iadd, 1) := by decide +kernel
theorem d_method_3_23 : decode method_3_code 23 = .ok (.iconst 3, 1) := by decide +kernel
theorem d_method_3_24 : decode method_3_code 24 = .ok (.iand, 1) := by decide +kernel
theorem d_method_3_25 : decode method_3_code 25 = .ok (.baload, 1) := by decide +kernel
theorem d_method_3_26 : decode method_3_code 26 = .ok (.ireturn, 1) := by decide +kernel
theorem d_method_3_8 : decode method_3_code 8 = .ok (.lload_n 2, 1) := by decide +kernel
theorem d_method_3_9 : decode method_3_code 9 = .ok (.bipush 8, 2) := by decide +kernel
theorem d_method_3_11 : decode method_3_code 11 = .ok (.iload_n 1, 1) := by decide +kernel
theorem d_method_3_12 : decode method_3_code 12 = .ok (.imul, 1) := by decide +kernel
theorem d_method_3_13 : decode method_3_code 13 = .ok (.lshr, 1) := by decide +kernel
theorem d_method_3_14 : decode method_3_code 14 = .ok (.l2i, 1) := by decide +kernel
theorem d_method_3_15 : decode method_3_code 15 = .ok (.i2b, 1) := by decide +kernel
theorem d_method_3_16 : decode method_3_code 16 = .ok (.ireturn, 1) := by decide +kernel
theorem pn_0 : plainName "com/example/tallyfold/tallyfold/LineIsSamePinLaw" = true := by first | (simp [plainName, overriddenIn]; done) | decide +kernel
set_option maxRecDepth 65536 in
set_option maxHeartbeats 40000000 in
theorem m_pick {Z : State} {a0 : Array Value} (hw : ∀ d ∈ tables_1, d.before a0 Z = true) (d : Int32) (k : Int32) (q : Int64) (a : Addr) (sh : Int32) (h0 : Heap) (n0 : Nat) (g : Nat → Int32) (A0 : Ari Z h0 a .byte 4 g) : ∀ l, Does l Z (⟨"com/example/tallyfold/tallyfold/LineIsSamePinLaw", "pick", "(IIJ[BI)B"⟩ : MethodName) method_3_code 6 (some .byte) ({ frames := 0, cells := 0, slots := 0, locals := 0 } : Room) n0 #[(.int d), (.int k), (.long q), (.ref a), (.int sh)] h0 (fun v h => (∃ z : Int32, v = some (.int z)) ∧ h = h0) := by
  intro l
  refine Does.of_wp (plainFor_of_name pn_0) (Ls := #[.val (.int d), .val (.int k), .val (.long q), .second, .val (.ref a), .val (.int sh)]) (fun m => by first | (simp [entryFrame, mkF, argsToLocals, Value.category]; done) | rfl) ?_
  intro C
  refine WP.iloadN (pc' := 1) d_method_3_0 rfl rfl ?_
  refine WP.iloadN (pc' := 2) d_method_3_1 rfl rfl ?_
  refine WP.ishr (pc' := 3) d_method_3_2 rfl ?_
  refine WP.iconst (pc' := 4) d_method_3_3 rfl (z := 1) rfl ?_
  refine WP.iand (pc' := 5) d_method_3_4 rfl ?_
  refine WP.ifc_eq (pc1 := 17) (pc2 := 8) d_method_3_5 (by decide) (by decide) rfl ?_ ?_
  · intro hc5
    refine WP.aload (pc' := 19) d_method_3_17 rfl rfl rfl ?_
    refine WP.iloadN (pc' := 20) d_method_3_19 rfl rfl ?_
    refine WP.iload (pc' := 22) d_method_3_20 rfl rfl ?_
    refine WP.iadd (pc' := 23) d_method_3_22 rfl ?_
    refine WP.iconst (pc' := 24) d_method_3_23 rfl (z := 3) rfl ?_
    refine WP.iand (pc' := 25) d_method_3_24 rfl ?_
    refine WP.baloadI (((k + sh) &&& (3 : Int32)).toInt.toNat) (pc' := 26) d_method_3_25 rfl A0 (by have := and3 (k + sh); omega) (by have := and3 (k + sh); omega) rfl ?_
    refine WP.nret (t := .byte) d_method_3_26 rfl (by simp) rfl (by decide) (by decide) ⟨⟨_, rfl⟩, rfl⟩
  · intro hc5
    refine WP.lloadN (pc' := 9) d_method_3_8 rfl rfl ?_
    refine WP.bipush (pc' := 11) d_method_3_9 rfl (z := 8) rfl ?_
    refine WP.iloadN (pc' := 12) d_method_3_11 rfl rfl ?_
    refine WP.imul (pc' := 13) d_method_3_12 rfl ?_
    refine WP.lshr (pc' := 14) d_method_3_13 rfl ?_
    refine WP.l2i (pc' := 15) d_method_3_14 rfl ?_
    refine WP.i2b (pc' := 16) d_method_3_15 rfl ?_
    refine WP.nret (t := .byte) d_method_3_16 rfl (by simp) rfl (by decide) (by decide) ⟨⟨_, rfl⟩, rfl⟩
theorem d_method_4_0 : decode method_4_code 0 = .ok (.iload 5, 2) := by decide +kernel
theorem d_method_4_2 : decode method_4_code 2 = .ok (.iload 4, 2) := by decide +kernel
theorem d_method_4_4 : decode method_4_code 4 = .ok (.if_icmp .ge 18, 3) := by decide +kernel
theorem d_method_4_22 : decode method_4_code 22 = .ok (.iconst 1, 1) := by decide +kernel
theorem d_method_4_23 : decode method_4_code 23 = .ok (.goto 4, 3) := by decide +kernel
theorem d_method_4_27 : decode method_4_code 27 = .ok (.ireturn, 1) := by decide +kernel
theorem d_method_4_7 : decode method_4_code 7 = .ok (.aload_n 0, 1) := by decide +kernel
theorem d_method_4_8 : decode method_4_code 8 = .ok (.iload_n 1, 1) := by decide +kernel
theorem d_method_4_9 : decode method_4_code 9 = .ok (.iload 5, 2) := by decide +kernel
theorem d_method_4_11 : decode method_4_code 11 = .ok (.iadd, 1) := by decide +kernel
theorem d_method_4_12 : decode method_4_code 12 = .ok (.baload, 1) := by decide +kernel
theorem d_method_4_13 : decode method_4_code 13 = .ok (.aload_n 2, 1) := by decide +kernel
theorem d_method_4_14 : decode method_4_code 14 = .ok (.iload_n 3, 1) := by decide +kernel
theorem d_method_4_15 : decode method_4_code 15 = .ok (.iload 5, 2) := by decide +kernel
theorem d_method_4_17 : decode method_4_code 17 = .ok (.iadd, 1) := by decide +kernel
theorem d_method_4_18 : decode method_4_code 18 = .ok (.baload, 1) := by decide +kernel
theorem d_method_4_19 : decode method_4_code 19 = .ok (.if_icmp .ne 7, 3) := by decide +kernel
theorem d_method_4_26 : decode method_4_code 26 = .ok (.iconst 0, 1) := by decide +kernel
set_option maxRecDepth 65536 in
set_option maxHeartbeats 40000000 in
theorem m_at {Z : State} {a0 : Array Value} (hw : ∀ d ∈ tables_1, d.before a0 Z = true) (a : Addr) (ps : Int32) (b : Addr) (po : Int32) (pn : Int32) (p : Int32) (h0 : Heap) (n0 : Nat) (g g' : Nat → Int32) (A0 : Ari Z h0 a .byte 4 g) (B0 : Ari Z h0 b .byte 4 g') (S O n i : Nat) (hs : ps.toInt = S) (ho : po.toInt = O) (hn : pn.toInt = n) (hi : p.toInt = i) (h1 : S + n ≤ 4) (h2 : O + n ≤ 4) : ∀ l, Does l Z (⟨"com/example/tallyfold/tallyfold/LineIsSamePinLaw", "at", "([BI[BIII)Z"⟩ : MethodName) method_4_code 6 (some .boolean) ({ frames := 0, cells := 0, slots := 0, locals := 0 } : Room) n0 #[(.ref a), (.int ps), (.ref b), (.int po), (.int pn), (.int p)] h0 (fun v h => ((v = some (.int 1) ∧ (n ≤ i ∨ g (S + i) = g' (O + i))) ∨ (v = some (.int 0) ∧ ¬ (n ≤ i ∨ g (S + i) = g' (O + i)))) ∧ h = h0) := by
  intro l
  refine Does.of_wp (plainFor_of_name pn_0) (Ls := #[.val (.ref a), .val (.int ps), .val (.ref b), .val (.int po), .val (.int pn), .val (.int p)]) (fun m => by first | (simp [entryFrame, mkF, argsToLocals, Value.category]; done) | rfl) ?_
  intro C
  refine WP.iload (pc' := 2) d_method_4_0 rfl rfl ?_
  refine WP.iload (pc' := 4) d_method_4_2 rfl rfl ?_
  refine WP.icmp_ge (pc1 := 22) (pc2 := 7) d_method_4_4 (by decide) (by decide) rfl ?_ ?_
  · intro hc4
    refine WP.iconst (pc' := 23) d_method_4_22 rfl (z := 1) rfl ?_
    refine WP.goto (pc' := 27) d_method_4_23 (by decide) (by decide) ?_
    refine WP.nret (t := .boolean) d_method_4_27 rfl (by simp) rfl (by decide) (by decide) ⟨Or.inl ⟨rfl, Or.inl (by rw [Int32.lt_iff_toInt_lt] at hc4; omega)⟩, rfl⟩
  · intro hc4
    have lt1 : i < n := by rw [Int32.lt_iff_toInt_lt] at hc4; omega
    refine WP.aloadN (pc' := 8) d_method_4_7 rfl rfl rfl ?_
    refine WP.iloadN (pc' := 9) d_method_4_8 rfl rfl ?_
    refine WP.iload (pc' := 11) d_method_4_9 rfl rfl ?_
    refine WP.iadd (pc' := 12) d_method_4_11 rfl ?_
    refine WP.baloadI (S + i) (pc' := 13) d_method_4_12 rfl A0 (adds hs hi (by omega)) (by omega) rfl ?_
    refine WP.aloadN (pc' := 14) d_method_4_13 rfl rfl rfl ?_
    refine WP.iloadN (pc' := 15) d_method_4_14 rfl rfl ?_
    refine WP.iload (pc' := 17) d_method_4_15 rfl rfl ?_
    refine WP.iadd (pc' := 18) d_method_4_17 rfl ?_
    refine WP.baloadI (O + i) (pc' := 19) d_method_4_18 rfl B0 (adds ho hi (by omega)) (by omega) rfl ?_
    refine WP.icmp_ne (pc1 := 26) (pc2 := 22) d_method_4_19 (by decide) (by decide) rfl ?_ ?_
    · intro hc19
      refine WP.iconst (pc' := 27) d_method_4_26 rfl (z := 0) rfl ?_
      refine WP.nret (t := .boolean) d_method_4_27 rfl (by simp) rfl (by decide) (by decide) ⟨Or.inr ⟨rfl, fun z => z.elim (fun z => by rw [Int32.lt_iff_toInt_lt] at hc4; omega) hc19⟩, rfl⟩
    · intro hc19
      refine WP.iconst (pc' := 23) d_method_4_22 rfl (z := 1) rfl ?_
      refine WP.goto (pc' := 27) d_method_4_23 (by decide) (by decide) ?_
      refine WP.nret (t := .boolean) d_method_4_27 rfl (by simp) rfl (by decide) (by decide) ⟨Or.inl ⟨rfl, Or.inr hc19⟩, rfl⟩
theorem d_prog_61_method_23_0 : decode prog_61_method_23_code 0 = .ok (.iload_n 2, 1) := by decide +kernel
theorem d_prog_61_method_23_1 : decode prog_61_method_23_code 1 = .ok (.iload_n 1, 1) := by decide +kernel
theorem d_prog_61_method_23_2 : decode prog_61_method_23_code 2 = .ok (.isub, 1) := by decide +kernel
theorem d_prog_61_method_23_3 : decode prog_61_method_23_code 3 = .ok (.iload 5, 2) := by decide +kernel
theorem d_prog_61_method_23_5 : decode prog_61_method_23_code 5 = .ok (.iload 4, 2) := by decide +kernel
theorem d_prog_61_method_23_7 : decode prog_61_method_23_code 7 = .ok (.isub, 1) := by decide +kernel
theorem d_prog_61_method_23_8 : decode prog_61_method_23_code 8 = .ok (.if_icmp .eq 5, 3) := by decide +kernel
theorem d_prog_61_method_23_13 : decode prog_61_method_23_code 13 = .ok (.iconst 0, 1) := by decide +kernel
theorem d_prog_61_method_23_14 : decode prog_61_method_23_code 14 = .ok (.istore 6, 2) := by decide +kernel
theorem d_prog_61_method_23_16 : decode prog_61_method_23_code 16 = .ok (.iload 6, 2) := by decide +kernel
theorem d_prog_61_method_23_18 : decode prog_61_method_23_code 18 = .ok (.iload_n 2, 1) := by decide +kernel
theorem d_prog_61_method_23_19 : decode prog_61_method_23_code 19 = .ok (.iload_n 1, 1) := by decide +kernel
theorem d_prog_61_method_23_20 : decode prog_61_method_23_code 20 = .ok (.isub, 1) := by decide +kernel
theorem d_prog_61_method_23_21 : decode prog_61_method_23_code 21 = .ok (.if_icmp .ge 27, 3) := by decide +kernel
theorem d_prog_61_method_23_48 : decode prog_61_method_23_code 48 = .ok (.iconst 1, 1) := by decide +kernel
theorem d_prog_61_method_23_49 : decode prog_61_method_23_code 49 = .ok (.ireturn, 1) := by decide +kernel
theorem d_prog_61_method_23_24 : decode prog_61_method_23_code 24 = .ok (.aload_n 0, 1) := by decide +kernel
theorem d_prog_61_method_23_25 : decode prog_61_method_23_code 25 = .ok (.iload_n 1, 1) := by decide +kernel
theorem d_prog_61_method_23_26 : decode prog_61_method_23_code 26 = .ok (.iload 6, 2) := by decide +kernel
theorem d_prog_61_method_23_28 : decode prog_61_method_23_code 28 = .ok (.iadd, 1) := by decide +kernel
theorem d_prog_61_method_23_29 : decode prog_61_method_23_code 29 = .ok (.baload, 1) := by decide +kernel
theorem d_prog_61_method_23_30 : decode prog_61_method_23_code 30 = .ok (.aload_n 3, 1) := by decide +kernel
theorem d_prog_61_method_23_31 : decode prog_61_method_23_code 31 = .ok (.iload 4, 2) := by decide +kernel
theorem d_prog_61_method_23_33 : decode prog_61_method_23_code 33 = .ok (.iload 6, 2) := by decide +kernel
theorem d_prog_61_method_23_35 : decode prog_61_method_23_code 35 = .ok (.iadd, 1) := by decide +kernel
theorem d_prog_61_method_23_36 : decode prog_61_method_23_code 36 = .ok (.baload, 1) := by decide +kernel
theorem d_prog_61_method_23_37 : decode prog_61_method_23_code 37 = .ok (.if_icmp .eq 5, 3) := by decide +kernel
theorem d_prog_61_method_23_42 : decode prog_61_method_23_code 42 = .ok (.iinc 6 1, 3) := by decide +kernel
theorem d_prog_61_method_23_45 : decode prog_61_method_23_code 45 = .ok (.goto (-29), 3) := by decide +kernel
theorem d_prog_61_method_23_40 : decode prog_61_method_23_code 40 = .ok (.iconst 0, 1) := by decide +kernel
theorem d_prog_61_method_23_41 : decode prog_61_method_23_code 41 = .ok (.ireturn, 1) := by decide +kernel
theorem d_prog_61_method_23_11 : decode prog_61_method_23_code 11 = .ok (.iconst 0, 1) := by decide +kernel
theorem d_prog_61_method_23_12 : decode prog_61_method_23_code 12 = .ok (.ireturn, 1) := by decide +kernel
theorem pn_1 : plainName "com/example/tallyfold/tallyfold/Line" = true := by first | (simp [plainName, overriddenIn]; done) | decide +kernel
set_option maxRecDepth 65536 in
set_option maxHeartbeats 40000000 in
theorem m_same {Z : State} {a0 : Array Value} (hw : ∀ d ∈ tables_1, d.before a0 Z = true) (a : Addr) (ps : Int32) (pe : Int32) (b : Addr) (po : Int32) (pf : Int32) (h0 : Heap) (n0 : Nat) (g g' : Nat → Int32) (A0 : Ari Z h0 a .byte 4 g) (B0 : Ari Z h0 b .byte 4 g') (S E O O' : Nat) (hs1 : ps.toInt = S) (he1 : pe.toInt = E) (ho1 : po.toInt = O) (ho2 : pf.toInt = O') (h1 : S ≤ E) (h2 : E ≤ 4) (h3 : O ≤ O') (h4 : O' ≤ 4) : ∀ l, Does l Z (⟨"com/example/tallyfold/tallyfold/Line", "isSame", "([BII[BII)Z"⟩ : MethodName) prog_61_method_23_code 7 (some .boolean) ({ frames := 0, cells := 0, slots := 0, locals := 0 } : Room) n0 #[(.ref a), (.int ps), (.int pe), (.ref b), (.int po), (.int pf)] h0 (fun v h => ((v = some (.int 1) ∧ E - S = O' - O ∧ Sm g g' S O (E - S)) ∨ (v = some (.int 0) ∧ ¬ (E - S = O' - O ∧ Sm g g' S O (E - S)))) ∧ h = h0) := by
  intro l
  refine Does.of_wp (plainFor_of_name pn_1) (Ls := #[.val (.ref a), .val (.int ps), .val (.int pe), .val (.ref b), .val (.int po), .val (.int pf), .unset]) (fun m => by first | (simp [entryFrame, mkF, argsToLocals, Value.category]; done) | rfl) ?_
  intro C
  refine WP.iloadN (pc' := 1) d_prog_61_method_23_0 rfl rfl ?_
  refine WP.iloadN (pc' := 2) d_prog_61_method_23_1 rfl rfl ?_
  refine WP.isub (pc' := 3) d_prog_61_method_23_2 rfl ?_
  refine WP.iload (pc' := 5) d_prog_61_method_23_3 rfl rfl ?_
  refine WP.iload (pc' := 7) d_prog_61_method_23_5 rfl rfl ?_
  refine WP.isub (pc' := 8) d_prog_61_method_23_7 rfl ?_
  refine WP.icmp_eq (pc1 := 13) (pc2 := 11) d_prog_61_method_23_8 (by decide) (by decide) rfl ?_ ?_
  · intro hc8
    refine WP.iconst (pc' := 14) d_prog_61_method_23_13 rfl (z := 0) rfl ?_
    refine WP.istore (pc' := 16) d_prog_61_method_23_14 rfl (Ls' := #[.val (.ref a), .val (.int ps), .val (.int pe), .val (.ref b), .val (.int po), .val (.int pf), .val (.int (0 : Int32))]) rfl ?_
    have he : E - S = O' - O := by have := congrArg Int32.toInt hc8; rw [subs he1 hs1 (by omega) (by omega), subs ho2 ho1 (by omega) (by omega)] at this; omega
    have loop : ∀ (k i : Nat) (p : Int32), p.toInt = (i : Int) → i ≤ E - S → E - S - i < k → (∀ i' : Nat, i' < i → g (S + i') = g' (O + i')) → WP C Z prog_61_method_23_code 7 "com/example/tallyfold/tallyfold/Line" (some .boolean) "isSame" ({ frames := 0, cells := 0, slots := 0, locals := 0 } : Room) n0 (fun v h => ((v = some (.int 1) ∧ E - S = O' - O ∧ Sm g g' S O (E - S)) ∨ (v = some (.int 0) ∧ ¬ (E - S = O' - O ∧ Sm g g' S O (E - S)))) ∧ h = h0) 0 0 h0 16 #[.val (.ref a), .val (.int ps), .val (.int pe), .val (.ref b), .val (.int po), .val (.int pf), .val (.int p)] [] := by
      intro k
      induction k with
      | zero => intro i p hp hl hk; omega
      | succ k IH =>
        intro i p hp hl hk hsm
        refine WP.iload (pc' := 18) d_prog_61_method_23_16 rfl rfl ?_
        refine WP.iloadN (pc' := 19) d_prog_61_method_23_18 rfl rfl ?_
        refine WP.iloadN (pc' := 20) d_prog_61_method_23_19 rfl rfl ?_
        refine WP.isub (pc' := 21) d_prog_61_method_23_20 rfl ?_
        refine WP.icmp_ge (pc1 := 48) (pc2 := 24) d_prog_61_method_23_21 (by decide) (by decide) rfl ?_ ?_
        · intro hc21
          refine WP.iconst (pc' := 49) d_prog_61_method_23_48 rfl (z := 1) rfl ?_
          refine WP.nret (t := .boolean) d_prog_61_method_23_49 rfl (by simp) rfl (by decide) (by decide) ⟨Or.inl ⟨rfl, he, fun i hi => hsm i (by rw [Int32.lt_iff_toInt_lt, subs he1 hs1 (by omega) (by omega)] at hc21; omega)⟩, rfl⟩
        · intro hc21
          have lt1 : i < E - S := by rw [Int32.lt_iff_toInt_lt, subs he1 hs1 (by omega) (by omega)] at hc21; omega
          refine WP.aloadN (pc' := 25) d_prog_61_method_23_24 rfl rfl rfl ?_
          refine WP.iloadN (pc' := 26) d_prog_61_method_23_25 rfl rfl ?_
          refine WP.iload (pc' := 28) d_prog_61_method_23_26 rfl rfl ?_
          refine WP.iadd (pc' := 29) d_prog_61_method_23_28 rfl ?_
          refine WP.baloadI (S + i) (pc' := 30) d_prog_61_method_23_29 rfl A0 (adds hs1 hp (by omega)) (by omega) rfl ?_
          refine WP.aloadN (pc' := 31) d_prog_61_method_23_30 rfl rfl rfl ?_
          refine WP.iload (pc' := 33) d_prog_61_method_23_31 rfl rfl ?_
          refine WP.iload (pc' := 35) d_prog_61_method_23_33 rfl rfl ?_
          refine WP.iadd (pc' := 36) d_prog_61_method_23_35 rfl ?_
          refine WP.baloadI (O + i) (pc' := 37) d_prog_61_method_23_36 rfl B0 (adds ho1 hp (by omega)) (by omega) rfl ?_
          refine WP.icmp_eq (pc1 := 42) (pc2 := 40) d_prog_61_method_23_37 (by decide) (by decide) rfl ?_ ?_
          · intro hc37
            refine WP.iinc (pc' := 45) d_prog_61_method_23_42 rfl rfl (z := (p + (1 : Int32))) rfl (Ls' := #[.val (.ref a), .val (.int ps), .val (.int pe), .val (.ref b), .val (.int po), .val (.int pf), .val (.int (p + (1 : Int32)))]) rfl ?_
            refine WP.goto (pc' := 16) d_prog_61_method_23_45 (by decide) (by decide) ?_
            refine IH (i + 1) _ (adds hp (by decide) (by omega)) (by omega) (by omega) fun i' hi' => ?_
            by_cases q : i' = i
            · rw [q]; exact hc37
            · exact hsm i' (by omega)
          · intro hc37
            refine WP.iconst (pc' := 41) d_prog_61_method_23_40 rfl (z := 0) rfl ?_
            refine WP.nret (t := .boolean) d_prog_61_method_23_41 rfl (by simp) rfl (by decide) (by decide) ⟨Or.inr ⟨rfl, fun z => hc37 (z.2 i (by omega))⟩, rfl⟩
    exact loop (E - S + 1) 0 0 rfl (by omega) (by omega) fun i' hi' => absurd hi' (by omega)
  · intro hc8
    refine WP.iconst (pc' := 12) d_prog_61_method_23_11 rfl (z := 0) rfl ?_
    refine WP.nret (t := .boolean) d_prog_61_method_23_12 rfl (by simp) rfl (by decide) (by decide) ⟨Or.inr ⟨rfl, fun z => hc8 (Int32.toInt_inj.mp (by rw [subs he1 hs1 (by omega) (by omega), subs ho2 ho1 (by omega) (by omega), z.1]))⟩, rfl⟩
theorem wd0 {Z : State} {a0 : Array Value} (hw : ∀ d ∈ tables_1, d.before a0 Z = true) : (Jvm.Cond.arrayClass Jvm.ClassFile.FieldType.byte).before a0 Z = true := hw _ (List.mem_of_getElem? (i := 0) rfl)
theorem wd1 {Z : State} {a0 : Array Value} (hw : ∀ d ∈ tables_1, d.before a0 Z = true) : (Jvm.Cond.methodLink "com/example/tallyfold/tallyfold/LineIsSamePinLaw" (7 : Nat) ({ cls := "com/example/tallyfold/tallyfold/LineIsSamePinLaw", name := "pick", desc := "(IIJ[BI)B" } : Jvm.MethodName)).before a0 Z = true := hw _ (List.mem_of_getElem? (i := 1) rfl)
theorem wd4 {Z : State} {a0 : Array Value} (hw : ∀ d ∈ tables_1, d.before a0 Z = true) : (Jvm.Cond.code ({ cls := "com/example/tallyfold/tallyfold/LineIsSamePinLaw", name := "pick", desc := "(IIJ[BI)B" } : Jvm.MethodName) method_3_code (6 : Nat) (Option.some Jvm.ClassFile.FieldType.byte)).before a0 Z = true := hw _ (List.mem_of_getElem? (i := 4) rfl)
theorem wd3 {Z : State} {a0 : Array Value} (hw : ∀ d ∈ tables_1, d.before a0 Z = true) : (Jvm.Cond.initialized "com/example/tallyfold/tallyfold/LineIsSamePinLaw").before a0 Z = true := hw _ (List.mem_of_getElem? (i := 3) rfl)
theorem pd_0 : parseMethodDescriptor "(IIJ[BI)B" = some ⟨[.int, .int, .long, (.array .byte), .int], some .byte⟩ := by decide +kernel
theorem wd2 {Z : State} {a0 : Array Value} (hw : ∀ d ∈ tables_1, d.before a0 Z = true) : (Jvm.Cond.static ({ cls := "com/example/tallyfold/tallyfold/LineIsSamePinLaw", name := "pick", desc := "(IIJ[BI)B" } : Jvm.MethodName)).before a0 Z = true := hw _ (List.mem_of_getElem? (i := 2) rfl)
theorem wd5 {Z : State} {a0 : Array Value} (hw : ∀ d ∈ tables_1, d.before a0 Z = true) : (Jvm.Cond.methodLink "com/example/tallyfold/tallyfold/LineIsSamePinLaw" (13 : Nat) ({ cls := "java/lang/Math", name := "min", desc := "(II)I" } : Jvm.MethodName)).before a0 Z = true := hw _ (List.mem_of_getElem? (i := 5) rfl)
theorem wd8 {Z : State} {a0 : Array Value} (hw : ∀ d ∈ tables_1, d.before a0 Z = true) : (Jvm.Cond.code ({ cls := "java/lang/Math", name := "min", desc := "(II)I" } : Jvm.MethodName) jdk_29_method_69_code (2 : Nat) (Option.some Jvm.ClassFile.FieldType.int)).before a0 Z = true := hw _ (List.mem_of_getElem? (i := 8) rfl)
theorem wd7 {Z : State} {a0 : Array Value} (hw : ∀ d ∈ tables_1, d.before a0 Z = true) : (Jvm.Cond.initialized "java/lang/Math").before a0 Z = true := hw _ (List.mem_of_getElem? (i := 7) rfl)
theorem pd_1 : parseMethodDescriptor "(II)I" = some ⟨[.int, .int], some .int⟩ := by decide +kernel
theorem wd6 {Z : State} {a0 : Array Value} (hw : ∀ d ∈ tables_1, d.before a0 Z = true) : (Jvm.Cond.static ({ cls := "java/lang/Math", name := "min", desc := "(II)I" } : Jvm.MethodName)).before a0 Z = true := hw _ (List.mem_of_getElem? (i := 6) rfl)
theorem wd9 {Z : State} {a0 : Array Value} (hw : ∀ d ∈ tables_1, d.before a0 Z = true) : (Jvm.Cond.methodLink "com/example/tallyfold/tallyfold/LineIsSamePinLaw" (19 : Nat) ({ cls := "java/lang/Math", name := "max", desc := "(II)I" } : Jvm.MethodName)).before a0 Z = true := hw _ (List.mem_of_getElem? (i := 9) rfl)
theorem wd11 {Z : State} {a0 : Array Value} (hw : ∀ d ∈ tables_1, d.before a0 Z = true) : (Jvm.Cond.code ({ cls := "java/lang/Math", name := "max", desc := "(II)I" } : Jvm.MethodName) jdk_29_method_65_code (2 : Nat) (Option.some Jvm.ClassFile.FieldType.int)).before a0 Z = true := hw _ (List.mem_of_getElem? (i := 11) rfl)
theorem wd10 {Z : State} {a0 : Array Value} (hw : ∀ d ∈ tables_1, d.before a0 Z = true) : (Jvm.Cond.static ({ cls := "java/lang/Math", name := "max", desc := "(II)I" } : Jvm.MethodName)).before a0 Z = true := hw _ (List.mem_of_getElem? (i := 10) rfl)
theorem wd12 {Z : State} {a0 : Array Value} (hw : ∀ d ∈ tables_1, d.before a0 Z = true) : (Jvm.Cond.methodLink "com/example/tallyfold/tallyfold/LineIsSamePinLaw" (26 : Nat) ({ cls := "com/example/tallyfold/tallyfold/Line", name := "isSame", desc := "([BII[BII)Z" } : Jvm.MethodName)).before a0 Z = true := hw _ (List.mem_of_getElem? (i := 12) rfl)
theorem wd15 {Z : State} {a0 : Array Value} (hw : ∀ d ∈ tables_1, d.before a0 Z = true) : (Jvm.Cond.code ({ cls := "com/example/tallyfold/tallyfold/Line", name := "isSame", desc := "([BII[BII)Z" } : Jvm.MethodName) prog_61_method_23_code (7 : Nat) (Option.some Jvm.ClassFile.FieldType.boolean)).before a0 Z = true := hw _ (List.mem_of_getElem? (i := 15) rfl)
theorem wd14 {Z : State} {a0 : Array Value} (hw : ∀ d ∈ tables_1, d.before a0 Z = true) : (Jvm.Cond.initialized "com/example/tallyfold/tallyfold/Line").before a0 Z = true := hw _ (List.mem_of_getElem? (i := 14) rfl)
theorem pd_2 : parseMethodDescriptor "([BII[BII)Z" = some ⟨[(.array .byte), .int, .int, (.array .byte), .int, .int], some .boolean⟩ := by decide +kernel
theorem wd13 {Z : State} {a0 : Array Value} (hw : ∀ d ∈ tables_1, d.before a0 Z = true) : (Jvm.Cond.static ({ cls := "com/example/tallyfold/tallyfold/Line", name := "isSame", desc := "([BII[BII)Z" } : Jvm.MethodName)).before a0 Z = true := hw _ (List.mem_of_getElem? (i := 13) rfl)
theorem wd16 {Z : State} {a0 : Array Value} (hw : ∀ d ∈ tables_1, d.before a0 Z = true) : (Jvm.Cond.methodLink "com/example/tallyfold/tallyfold/LineIsSamePinLaw" (22 : Nat) ({ cls := "com/example/tallyfold/tallyfold/LineIsSamePinLaw", name := "at", desc := "([BI[BIII)Z" } : Jvm.MethodName)).before a0 Z = true := hw _ (List.mem_of_getElem? (i := 16) rfl)
theorem wd18 {Z : State} {a0 : Array Value} (hw : ∀ d ∈ tables_1, d.before a0 Z = true) : (Jvm.Cond.code ({ cls := "com/example/tallyfold/tallyfold/LineIsSamePinLaw", name := "at", desc := "([BI[BIII)Z" } : Jvm.MethodName) method_4_code (6 : Nat) (Option.some Jvm.ClassFile.FieldType.boolean)).before a0 Z = true := hw _ (List.mem_of_getElem? (i := 18) rfl)
theorem pd_3 : parseMethodDescriptor "([BI[BIII)Z" = some ⟨[(.array .byte), .int, (.array .byte), .int, .int, .int], some .boolean⟩ := by decide +kernel
theorem wd17 {Z : State} {a0 : Array Value} (hw : ∀ d ∈ tables_1, d.before a0 Z = true) : (Jvm.Cond.static ({ cls := "com/example/tallyfold/tallyfold/LineIsSamePinLaw", name := "at", desc := "([BI[BIII)Z" } : Jvm.MethodName)).before a0 Z = true := hw _ (List.mem_of_getElem? (i := 17) rfl)
set_option maxRecDepth 65536 in
set_option maxHeartbeats 40000000 in
theorem rm0 {Z : State} {a0 : Array Value} (hw : ∀ d ∈ tables_1, d.before a0 Z = true) (x0 : Int64) (x1 : Int64) (x2 : Int32) (x3 : Int32) (x4 : Int32) (h0 : Heap) (n0 : Nat) (Z0 : n0 ≤ h0.size) : ∀ l, Does l Z x code maxLocals ret room_1 n0 #[(.long x0), (.long x1), (.int x2), (.int x3), (.int x4)] h0 (fun v _ => v = some (.int 1)) := by
  intro l
  refine Does.of_wp (plainFor_of_name pn_0) (Ls := #[.val (.long x0), .second, .val (.long x1), .second, .val (.int x2), .val (.int x3), .val (.int x4), .unset, .unset, .unset, .unset, .unset, .unset, .unset, .unset, .unset, .unset, .unset, .unset, .unset]) (fun m => by first | (simp [entryFrame, mkF, argsToLocals, Value.category, maxLocals]; done) | rfl) ?_
  intro C
  refine WP.iconst (pc' := 1) at_0 rfl (z := 4) rfl ?_
  refine WP.newPI (ty := .byte) (n := 4) (cap := 4) (cl' := 1) (sl' := 4) (pc' := 3) at_1 rfl rfl rfl (wd0 hw) (by decide) (by decide) (by decide) rfl rfl (by decide) (by decide) ?_
  intro h1 b1 g1 E1 A1
  have ge2 : n0 ≤ b1 := by rw [g1]; exact Z0
  have Z3 : n0 ≤ h1.size := Nat.le_trans Z0 E1.1
  refine WP.astore (pc' := 5) at_3 rfl rfl (Ls' := #[.val (.long x0), .second, .val (.long x1), .second, .val (.int x2), .val (.int x3), .val (.int x4), .val (.ref b1), .unset, .unset, .unset, .unset, .unset, .unset, .unset, .unset, .unset, .unset, .unset, .unset]) rfl ?_
  refine WP.iconst (pc' := 6) at_5 rfl (z := 4) rfl ?_
  refine WP.newPI (ty := .byte) (n := 4) (cap := 4) (cl' := 2) (sl' := 8) (pc' := 8) at_6 rfl rfl rfl (wd0 hw) (by decide) (by decide) (by decide) rfl rfl (by decide) (by decide) ?_
  intro h4 b4 g4 E4 A4
  have ge5 : n0 ≤ b4 := by rw [g4]; exact Z3
  have ne6 : b1 ≠ b4 := by rw [g4]; exact Nat.ne_of_lt A1.lt
  have V7 := A1.ext E4
  have Z8 : n0 ≤ h4.size := Nat.le_trans Z3 E4.1
  refine WP.astore (pc' := 10) at_8 rfl rfl (Ls' := #[.val (.long x0), .second, .val (.long x1), .second, .val (.int x2), .val (.int x3), .val (.int x4), .val (.ref b1), .val (.ref b4), .unset, .unset, .unset, .unset, .unset, .unset, .unset, .unset, .unset, .unset, .unset]) rfl ?_
  refine WP.aload (pc' := 12) at_10 rfl rfl rfl ?_
  refine WP.iconst (pc' := 13) at_12 rfl (z := 0) rfl ?_
  refine WP.lloadN (pc' := 14) at_13 rfl rfl ?_
  refine WP.l2i (pc' := 15) at_14 rfl ?_
  refine WP.i2b (pc' := 16) at_15 rfl ?_
  refine WP.bastoreI (x' := (nar .byte ((x0.toInt32).toInt8.toInt32))) (0) (pc' := 17) at_16 rfl V7 (by decide) (by decide) ge2 rfl ?_
  intro h9 K10 A11
  have V12 := A4.keep K10 (ninS (Ne.symm ne6) nin0)
  have Z13 : n0 ≤ h9.size := Nat.le_trans Z8 K10.1
  refine WP.aload (pc' := 19) at_17 rfl rfl rfl ?_
  refine WP.iconst (pc' := 20) at_19 rfl (z := 1) rfl ?_
  refine WP.lloadN (pc' := 21) at_20 rfl rfl ?_
  refine WP.bipush (pc' := 23) at_21 rfl (z := 8) rfl ?_
  refine WP.lshr (pc' := 24) at_23 rfl ?_
  refine WP.l2i (pc' := 25) at_24 rfl ?_
  refine WP.i2b (pc' := 26) at_25 rfl ?_
  refine WP.bastoreI (x' := (nar .byte (((x0 >>> ((8 : Int32) &&& 0x3f).toInt64).toInt32).toInt8.toInt32))) (1) (pc' := 27) at_26 rfl A11 (by decide) (by decide) ge2 rfl ?_
  intro h14 K15 A16
  have V17 := V12.keep K15 (ninS (Ne.symm ne6) nin0)
  have Z18 : n0 ≤ h14.size := Nat.le_trans Z13 K15.1
  refine WP.aload (pc' := 29) at_27 rfl rfl rfl ?_
  refine WP.iconst (pc' := 30) at_29 rfl (z := 2) rfl ?_
  refine WP.lloadN (pc' := 31) at_30 rfl rfl ?_
  refine WP.bipush (pc' := 33) at_31 rfl (z := 16) rfl ?_
  refine WP.lshr (pc' := 34) at_33 rfl ?_
  refine WP.l2i (pc' := 35) at_34 rfl ?_
  refine WP.i2b (pc' := 36) at_35 rfl ?_
  refine WP.bastoreI (x' := (nar .byte (((x0 >>> ((16 : Int32) &&& 0x3f).toInt64).toInt32).toInt8.toInt32))) (2) (pc' := 37) at_36 rfl A16 (by decide) (by decide) ge2 rfl ?_
  intro h19 K20 A21
  have V22 := V17.keep K20 (ninS (Ne.symm ne6) nin0)
  have Z23 : n0 ≤ h19.size := Nat.le_trans Z18 K20.1
  refine WP.aload (pc' := 39) at_37 rfl rfl rfl ?_
  refine WP.iconst (pc' := 40) at_39 rfl (z := 3) rfl ?_
  refine WP.lloadN (pc' := 41) at_40 rfl rfl ?_
  refine WP.bipush (pc' := 43) at_41 rfl (z := 24) rfl ?_
  refine WP.lshr (pc' := 44) at_43 rfl ?_
  refine WP.l2i (pc' := 45) at_44 rfl ?_
  refine WP.i2b (pc' := 46) at_45 rfl ?_
  refine WP.bastoreI (x' := (nar .byte (((x0 >>> ((24 : Int32) &&& 0x3f).toInt64).toInt32).toInt8.toInt32))) (3) (pc' := 47) at_46 rfl A21 (by decide) (by decide) ge2 rfl ?_
  intro h24 K25 A26
  have V27 := V22.keep K25 (ninS (Ne.symm ne6) nin0)
  have Z28 : n0 ≤ h24.size := Nat.le_trans Z23 K25.1
  refine WP.iload (pc' := 49) at_47 rfl rfl ?_
  refine WP.iconst (pc' := 50) at_49 rfl (z := 4) rfl ?_
  refine WP.ishr (pc' := 51) at_50 rfl ?_
  refine WP.iconst (pc' := 52) at_51 rfl (z := 3) rfl ?_
  refine WP.iand (pc' := 53) at_52 rfl ?_
  generalize ht29 : ((x2 >>> ((4 : Int32) &&& 31)) &&& (3 : Int32)) = t29
  refine WP.istore (pc' := 55) at_53 rfl (Ls' := #[.val (.long x0), .second, .val (.long x1), .second, .val (.int x2), .val (.int x3), .val (.int x4), .val (.ref b1), .val (.ref b4), .val (.int t29), .unset, .unset, .unset, .unset, .unset, .unset, .unset, .unset, .unset, .unset]) rfl ?_
  refine WP.aload (pc' := 57) at_55 rfl rfl rfl ?_
  refine WP.iconst (pc' := 58) at_57 rfl (z := 0) rfl ?_
  refine WP.iload (pc' := 60) at_58 rfl rfl ?_
  refine WP.iconst (pc' := 61) at_60 rfl (z := 0) rfl ?_
  refine WP.lloadN (pc' := 62) at_61 rfl rfl ?_
  refine WP.aload (pc' := 64) at_62 rfl rfl rfl ?_
  refine WP.iload (pc' := 66) at_64 rfl rfl ?_
  refine WP.callS (argsL := [(.int x2), (.int (0 : Int32)), (.long x1), (.ref b1), (.int t29)]) (rest := [(.int (0 : Int32)), (.ref b4)]) (wd := 2) (cl' := 2) (sl' := 8) (pc' := 69) at_66 rfl (wd1 hw) (wd2 hw) (wd3 hw) (wd4 hw) (by decide) (m_pick hw x2 (0 : Int32) x1 b1 t29 h24 n0 (updI (updI (updI (updI (fun _ => 0) 0 (nar .byte ((x0.toInt32).toInt8.toInt32))) 1 (nar .byte (((x0 >>> ((8 : Int32) &&& 0x3f).toInt64).toInt32).toInt8.toInt32))) 2 (nar .byte (((x0 >>> ((16 : Int32) &&& 0x3f).toInt64).toInt32).toInt8.toInt32))) 3 (nar .byte (((x0 >>> ((24 : Int32) &&& 0x3f).toInt64).toInt32).toInt8.toInt32))) A26) pd_0 rfl rfl rfl (Nat.le_of_eq rfl) (by decide) (by decide) rfl rfl (by decide) (by decide) ?_
  rintro v hh31 ⟨⟨z30, rfl⟩, he31⟩
  rw [he31]
  refine WP.castS (st' := [(.int z30), (.int (0 : Int32)), (.ref b4)]) rfl ?_
  refine WP.bastoreI (x' := (nar .byte z30)) (0) (pc' := 70) at_69 rfl V27 (by decide) (by decide) ge5 rfl ?_
  intro h32 K33 A34
  have V35 := A26.keep K33 (ninS ne6 nin0)
  have Z36 : n0 ≤ h32.size := Nat.le_trans Z28 K33.1
  refine WP.aload (pc' := 72) at_70 rfl rfl rfl ?_
  refine WP.iconst (pc' := 73) at_72 rfl (z := 1) rfl ?_
  refine WP.iload (pc' := 75) at_73 rfl rfl ?_
  refine WP.iconst (pc' := 76) at_75 rfl (z := 1) rfl ?_
  refine WP.lloadN (pc' := 77) at_76 rfl rfl ?_
  refine WP.aload (pc' := 79) at_77 rfl rfl rfl ?_
  refine WP.iload (pc' := 81) at_79 rfl rfl ?_
  refine WP.callS (argsL := [(.int x2), (.int (1 : Int32)), (.long x1), (.ref b1), (.int t29)]) (rest := [(.int (1 : Int32)), (.ref b4)]) (wd := 2) (cl' := 2) (sl' := 8) (pc' := 84) at_81 rfl (wd1 hw) (wd2 hw) (wd3 hw) (wd4 hw) (by decide) (m_pick hw x2 (1 : Int32) x1 b1 t29 h32 n0 (updI (updI (updI (updI (fun _ => 0) 0 (nar .byte ((x0.toInt32).toInt8.toInt32))) 1 (nar .byte (((x0 >>> ((8 : Int32) &&& 0x3f).toInt64).toInt32).toInt8.toInt32))) 2 (nar .byte (((x0 >>> ((16 : Int32) &&& 0x3f).toInt64).toInt32).toInt8.toInt32))) 3 (nar .byte (((x0 >>> ((24 : Int32) &&& 0x3f).toInt64).toInt32).toInt8.toInt32))) V35) pd_0 rfl rfl rfl (Nat.le_of_eq rfl) (by decide) (by decide) rfl rfl (by decide) (by decide) ?_
  rintro v hh38 ⟨⟨z37, rfl⟩, he38⟩
  rw [he38]
  refine WP.castS (st' := [(.int z37), (.int (1 : Int32)), (.ref b4)]) rfl ?_
  refine WP.bastoreI (x' := (nar .byte z37)) (1) (pc' := 85) at_84 rfl A34 (by decide) (by decide) ge5 rfl ?_
  intro h39 K40 A41
  have V42 := V35.keep K40 (ninS ne6 nin0)
  have Z43 : n0 ≤ h39.size := Nat.le_trans Z36 K40.1
  refine WP.aload (pc' := 87) at_85 rfl rfl rfl ?_
  refine WP.iconst (pc' := 88) at_87 rfl (z := 2) rfl ?_
  refine WP.iload (pc' := 90) at_88 rfl rfl ?_
  refine WP.iconst (pc' := 91) at_90 rfl (z := 2) rfl ?_
  refine WP.lloadN (pc' := 92) at_91 rfl rfl ?_
  refine WP.aload (pc' := 94) at_92 rfl rfl rfl ?_
  refine WP.iload (pc' := 96) at_94 rfl rfl ?_
  refine WP.callS (argsL := [(.int x2), (.int (2 : Int32)), (.long x1), (.ref b1), (.int t29)]) (rest := [(.int (2 : Int32)), (.ref b4)]) (wd := 2) (cl' := 2) (sl' := 8) (pc' := 99) at_96 rfl (wd1 hw) (wd2 hw) (wd3 hw) (wd4 hw) (by decide) (m_pick hw x2 (2 : Int32) x1 b1 t29 h39 n0 (updI (updI (updI (updI (fun _ => 0) 0 (nar .byte ((x0.toInt32).toInt8.toInt32))) 1 (nar .byte (((x0 >>> ((8 : Int32) &&& 0x3f).toInt64).toInt32).toInt8.toInt32))) 2 (nar .byte (((x0 >>> ((16 : Int32) &&& 0x3f).toInt64).toInt32).toInt8.toInt32))) 3 (nar .byte (((x0 >>> ((24 : Int32) &&& 0x3f).toInt64).toInt32).toInt8.toInt32))) V42) pd_0 rfl rfl rfl (Nat.le_of_eq rfl) (by decide) (by decide) rfl rfl (by decide) (by decide) ?_
  rintro v hh45 ⟨⟨z44, rfl⟩, he45⟩
  rw [he45]
  refine WP.castS (st' := [(.int z44), (.int (2 : Int32)), (.ref b4)]) rfl ?_
  refine WP.bastoreI (x' := (nar .byte z44)) (2) (pc' := 100) at_99 rfl A41 (by decide) (by decide) ge5 rfl ?_
  intro h46 K47 A48
  have V49 := V42.keep K47 (ninS ne6 nin0)
  have Z50 : n0 ≤ h46.size := Nat.le_trans Z43 K47.1
  refine WP.aload (pc' := 102) at_100 rfl rfl rfl ?_
  refine WP.iconst (pc' := 103) at_102 rfl (z := 3) rfl ?_
  refine WP.iload (pc' := 105) at_103 rfl rfl ?_
  refine WP.iconst (pc' := 106) at_105 rfl (z := 3) rfl ?_
  refine WP.lloadN (pc' := 107) at_106 rfl rfl ?_
  refine WP.aload (pc' := 109) at_107 rfl rfl rfl ?_
  refine WP.iload (pc' := 111) at_109 rfl rfl ?_
  refine WP.callS (argsL := [(.int x2), (.int (3 : Int32)), (.long x1), (.ref b1), (.int t29)]) (rest := [(.int (3 : Int32)), (.ref b4)]) (wd := 2) (cl' := 2) (sl' := 8) (pc' := 114) at_111 rfl (wd1 hw) (wd2 hw) (wd3 hw) (wd4 hw) (by decide) (m_pick hw x2 (3 : Int32) x1 b1 t29 h46 n0 (updI (updI (updI (updI (fun _ => 0) 0 (nar .byte ((x0.toInt32).toInt8.toInt32))) 1 (nar .byte (((x0 >>> ((8 : Int32) &&& 0x3f).toInt64).toInt32).toInt8.toInt32))) 2 (nar .byte (((x0 >>> ((16 : Int32) &&& 0x3f).toInt64).toInt32).toInt8.toInt32))) 3 (nar .byte (((x0 >>> ((24 : Int32) &&& 0x3f).toInt64).toInt32).toInt8.toInt32))) V49) pd_0 rfl rfl rfl (Nat.le_of_eq rfl) (by decide) (by decide) rfl rfl (by decide) (by decide) ?_
  rintro v hh52 ⟨⟨z51, rfl⟩, he52⟩
  rw [he52]
  refine WP.castS (st' := [(.int z51), (.int (3 : Int32)), (.ref b4)]) rfl ?_
  refine WP.bastoreI (x' := (nar .byte z51)) (3) (pc' := 115) at_114 rfl A48 (by decide) (by decide) ge5 rfl ?_
  intro h53 K54 A55
  have V56 := V49.keep K54 (ninS ne6 nin0)
  have Z57 : n0 ≤ h53.size := Nat.le_trans Z50 K54.1
  generalize (updI (updI (updI (updI (fun _ => 0) 0 (nar .byte ((x0.toInt32).toInt8.toInt32))) 1 (nar .byte (((x0 >>> ((8 : Int32) &&& 0x3f).toInt64).toInt32).toInt8.toInt32))) 2 (nar .byte (((x0 >>> ((16 : Int32) &&& 0x3f).toInt64).toInt32).toInt8.toInt32))) 3 (nar .byte (((x0 >>> ((24 : Int32) &&& 0x3f).toInt64).toInt32).toInt8.toInt32))) = g at V56
  generalize (updI (updI (updI (updI (fun _ => 0) 0 (nar .byte z30)) 1 (nar .byte z37)) 2 (nar .byte z44)) 3 (nar .byte z51)) = g' at A55
  refine WP.iload (pc' := 117) at_115 rfl rfl ?_
  refine WP.bipush (pc' := 119) at_117 rfl (z := 7) rfl ?_
  refine WP.iand (pc' := 120) at_119 rfl ?_
  refine WP.iconst (pc' := 121) at_120 rfl (z := 5) rfl ?_
  refine WP.irem (pc' := 122) at_121 rfl (by decide) ?_
  generalize ht58 : ((x3 &&& (7 : Int32)) % (5 : Int32)) = t58
  refine WP.istore (pc' := 124) at_122 rfl (Ls' := #[.val (.long x0), .second, .val (.long x1), .second, .val (.int x2), .val (.int x3), .val (.int x4), .val (.ref b1), .val (.ref b4), .val (.int t29), .val (.int t58), .unset, .unset, .unset, .unset, .unset, .unset, .unset, .unset, .unset]) rfl ?_
  refine WP.iload (pc' := 126) at_124 rfl rfl ?_
  refine WP.iconst (pc' := 127) at_126 rfl (z := 3) rfl ?_
  refine WP.ishr (pc' := 128) at_127 rfl ?_
  refine WP.bipush (pc' := 130) at_128 rfl (z := 7) rfl ?_
  refine WP.iand (pc' := 131) at_130 rfl ?_
  refine WP.iconst (pc' := 132) at_131 rfl (z := 5) rfl ?_
  refine WP.irem (pc' := 133) at_132 rfl (by decide) ?_
  generalize ht59 : (((x3 >>> ((3 : Int32) &&& 31)) &&& (7 : Int32)) % (5 : Int32)) = t59
  refine WP.istore (pc' := 135) at_133 rfl (Ls' := #[.val (.long x0), .second, .val (.long x1), .second, .val (.int x2), .val (.int x3), .val (.int x4), .val (.ref b1), .val (.ref b4), .val (.int t29), .val (.int t58), .val (.int t59), .unset, .unset, .unset, .unset, .unset, .unset, .unset, .unset]) rfl ?_
  refine WP.iload (pc' := 137) at_135 rfl rfl ?_
  refine WP.iload (pc' := 139) at_137 rfl rfl ?_
  refine WP.callS (argsL := [(.int t58), (.int t59)]) (rest := []) (wd := 0) (cl' := 2) (sl' := 8) (pc' := 142) at_139 rfl (wd5 hw) (wd6 hw) (wd7 hw) (wd8 hw) (by decide) (m_min hw t58 t59 h53 n0) pd_1 rfl rfl rfl (Nat.le_of_eq rfl) (by decide) (by decide) rfl rfl (by decide) (by decide) ?_
  rintro v hh60 ⟨rfl, he60⟩
  rw [he60]
  refine WP.castS (st' := [(.int (minI t58 t59))]) rfl ?_
  generalize ht61 : (minI t58 t59) = t61
  refine WP.istore (pc' := 144) at_142 rfl (Ls' := #[.val (.long x0), .second, .val (.long x1), .second, .val (.int x2), .val (.int x3), .val (.int x4), .val (.ref b1), .val (.ref b4), .val (.int t29), .val (.int t58), .val (.int t59), .val (.int t61), .unset, .unset, .unset, .unset, .unset, .unset, .unset]) rfl ?_
  refine WP.iload (pc' := 146) at_144 rfl rfl ?_
  refine WP.iload (pc' := 148) at_146 rfl rfl ?_
  refine WP.callS (argsL := [(.int t58), (.int t59)]) (rest := []) (wd := 0) (cl' := 2) (sl' := 8) (pc' := 151) at_148 rfl (wd9 hw) (wd10 hw) (wd7 hw) (wd11 hw) (by decide) (m_max hw t58 t59 h53 n0) pd_1 rfl rfl rfl (Nat.le_of_eq rfl) (by decide) (by decide) rfl rfl (by decide) (by decide) ?_
  rintro v hh62 ⟨rfl, he62⟩
  rw [he62]
  refine WP.castS (st' := [(.int (maxI t58 t59))]) rfl ?_
  generalize ht63 : (maxI t58 t59) = t63
  refine WP.istore (pc' := 153) at_151 rfl (Ls' := #[.val (.long x0), .second, .val (.long x1), .second, .val (.int x2), .val (.int x3), .val (.int x4), .val (.ref b1), .val (.ref b4), .val (.int t29), .val (.int t58), .val (.int t59), .val (.int t61), .val (.int t63), .unset, .unset, .unset, .unset, .unset, .unset]) rfl ?_
  refine WP.iload (pc' := 155) at_153 rfl rfl ?_
  refine WP.bipush (pc' := 157) at_155 rfl (z := 7) rfl ?_
  refine WP.iand (pc' := 158) at_157 rfl ?_
  refine WP.iconst (pc' := 159) at_158 rfl (z := 5) rfl ?_
  refine WP.irem (pc' := 160) at_159 rfl (by decide) ?_
  generalize ht64 : ((x4 &&& (7 : Int32)) % (5 : Int32)) = t64
  refine WP.istore (pc' := 162) at_160 rfl (Ls' := #[.val (.long x0), .second, .val (.long x1), .second, .val (.int x2), .val (.int x3), .val (.int x4), .val (.ref b1), .val (.ref b4), .val (.int t29), .val (.int t58), .val (.int t59), .val (.int t61), .val (.int t63), .val (.int t64), .unset, .unset, .unset, .unset, .unset]) rfl ?_
  refine WP.iload (pc' := 164) at_162 rfl rfl ?_
  refine WP.iconst (pc' := 165) at_164 rfl (z := 3) rfl ?_
  refine WP.ishr (pc' := 166) at_165 rfl ?_
  refine WP.bipush (pc' := 168) at_166 rfl (z := 7) rfl ?_
  refine WP.iand (pc' := 169) at_168 rfl ?_
  refine WP.iconst (pc' := 170) at_169 rfl (z := 5) rfl ?_
  refine WP.irem (pc' := 171) at_170 rfl (by decide) ?_
  generalize ht65 : (((x4 >>> ((3 : Int32) &&& 31)) &&& (7 : Int32)) % (5 : Int32)) = t65
  refine WP.istore (pc' := 173) at_171 rfl (Ls' := #[.val (.long x0), .second, .val (.long x1), .second, .val (.int x2), .val (.int x3), .val (.int x4), .val (.ref b1), .val (.ref b4), .val (.int t29), .val (.int t58), .val (.int t59), .val (.int t61), .val (.int t63), .val (.int t64), .val (.int t65), .unset, .unset, .unset, .unset]) rfl ?_
  refine WP.iload (pc' := 175) at_173 rfl rfl ?_
  refine WP.iload (pc' := 177) at_175 rfl rfl ?_
  refine WP.callS (argsL := [(.int t64), (.int t65)]) (rest := []) (wd := 0) (cl' := 2) (sl' := 8) (pc' := 180) at_177 rfl (wd5 hw) (wd6 hw) (wd7 hw) (wd8 hw) (by decide) (m_min hw t64 t65 h53 n0) pd_1 rfl rfl rfl (Nat.le_of_eq rfl) (by decide) (by decide) rfl rfl (by decide) (by decide) ?_
  rintro v hh66 ⟨rfl, he66⟩
  rw [he66]
  refine WP.castS (st' := [(.int (minI t64 t65))]) rfl ?_
  generalize ht67 : (minI t64 t65) = t67
  refine WP.istore (pc' := 182) at_180 rfl (Ls' := #[.val (.long x0), .second, .val (.long x1), .second, .val (.int x2), .val (.int x3), .val (.int x4), .val (.ref b1), .val (.ref b4), .val (.int t29), .val (.int t58), .val (.int t59), .val (.int t61), .val (.int t63), .val (.int t64), .val (.int t65), .val (.int t67), .unset, .unset, .unset]) rfl ?_
  refine WP.iload (pc' := 184) at_182 rfl rfl ?_
  refine WP.iload (pc' := 186) at_184 rfl rfl ?_
  refine WP.callS (argsL := [(.int t64), (.int t65)]) (rest := []) (wd := 0) (cl' := 2) (sl' := 8) (pc' := 189) at_186 rfl (wd9 hw) (wd10 hw) (wd7 hw) (wd11 hw) (by decide) (m_max hw t64 t65 h53 n0) pd_1 rfl rfl rfl (Nat.le_of_eq rfl) (by decide) (by decide) rfl rfl (by decide) (by decide) ?_
  rintro v hh68 ⟨rfl, he68⟩
  rw [he68]
  refine WP.castS (st' := [(.int (maxI t64 t65))]) rfl ?_
  generalize ht69 : (maxI t64 t65) = t69
  refine WP.istore (pc' := 191) at_189 rfl (Ls' := #[.val (.long x0), .second, .val (.long x1), .second, .val (.int x2), .val (.int x3), .val (.int x4), .val (.ref b1), .val (.ref b4), .val (.int t29), .val (.int t58), .val (.int t59), .val (.int t61), .val (.int t63), .val (.int t64), .val (.int t65), .val (.int t67), .val (.int t69), .unset, .unset]) rfl ?_
  have bt58 : 0 ≤ t58.toInt ∧ t58.toInt ≤ 4 := by rw [← ht58]; exact r5 _
  have bt59 : 0 ≤ t59.toInt ∧ t59.toInt ≤ 4 := by rw [← ht59]; exact r5 _
  have bt64 : 0 ≤ t64.toInt ∧ t64.toInt ≤ 4 := by rw [← ht64]; exact r5 _
  have bt65 : 0 ≤ t65.toInt ∧ t65.toInt ≤ 4 := by rw [← ht65]; exact r5 _
  have m1 := mm t58 t59
  have m2 := mm t64 t65
  rw [ht61, ht63] at m1
  rw [ht67, ht69] at m2
  obtain ⟨S, hS⟩ : ∃ n : Nat, t61.toInt = n := ⟨t61.toInt.toNat, by omega⟩
  obtain ⟨E, hE⟩ : ∃ n : Nat, t63.toInt = n := ⟨t63.toInt.toNat, by omega⟩
  obtain ⟨O, hO⟩ : ∃ n : Nat, t67.toInt = n := ⟨t67.toInt.toNat, by omega⟩
  obtain ⟨O', hO'⟩ : ∃ n : Nat, t69.toInt = n := ⟨t69.toInt.toNat, by omega⟩
  have q1 : S ≤ E := by omega
  have q2 : E ≤ 4 := by omega
  have q3 : O ≤ O' := by omega
  have q4 : O' ≤ 4 := by omega
  refine WP.iload (pc' := 193) at_191 rfl rfl ?_
  refine WP.iload (pc' := 195) at_193 rfl rfl ?_
  refine WP.isub (pc' := 196) at_195 rfl ?_
  generalize ht70 : (t63 - t61) = t70
  refine WP.istore (pc' := 198) at_196 rfl (Ls' := #[.val (.long x0), .second, .val (.long x1), .second, .val (.int x2), .val (.int x3), .val (.int x4), .val (.ref b1), .val (.ref b4), .val (.int t29), .val (.int t58), .val (.int t59), .val (.int t61), .val (.int t63), .val (.int t64), .val (.int t65), .val (.int t67), .val (.int t69), .val (.int t70), .unset]) rfl ?_
  have hN : t70.toInt = ((E - S : Nat) : Int) := by rw [← ht70]; exact subs hE hS q1 (by omega)
  refine WP.iload (pc' := 200) at_198 rfl rfl ?_
  refine WP.iload (pc' := 202) at_200 rfl rfl ?_
  refine WP.iload (pc' := 204) at_202 rfl rfl ?_
  refine WP.isub (pc' := 205) at_204 rfl ?_
  refine WP.icmp_ne (pc1 := 280) (pc2 := 208) at_205 (by decide) (by decide) rfl ?_ ?_
  · intro hc205
    refine WP.iconst (pc' := 281) at_280 rfl (z := 0) rfl ?_
    refine WP.istore (pc' := 283) at_281 rfl (Ls' := #[.val (.long x0), .second, .val (.long x1), .second, .val (.int x2), .val (.int x3), .val (.int x4), .val (.ref b1), .val (.ref b4), .val (.int t29), .val (.int t58), .val (.int t59), .val (.int t61), .val (.int t63), .val (.int t64), .val (.int t65), .val (.int t67), .val (.int t69), .val (.int t70), .val (.int (0 : Int32))]) rfl ?_
    refine WP.aload (pc' := 285) at_283 rfl rfl rfl ?_
    refine WP.iload (pc' := 287) at_285 rfl rfl ?_
    refine WP.iload (pc' := 289) at_287 rfl rfl ?_
    refine WP.aload (pc' := 291) at_289 rfl rfl rfl ?_
    refine WP.iload (pc' := 293) at_291 rfl rfl ?_
    refine WP.iload (pc' := 295) at_293 rfl rfl ?_
    refine WP.callS (argsL := [(.ref b1), (.int t61), (.int t63), (.ref b4), (.int t67), (.int t69)]) (rest := []) (wd := 0) (cl' := 2) (sl' := 8) (pc' := 298) at_295 rfl (wd12 hw) (wd13 hw) (wd14 hw) (wd15 hw) (by decide) (m_same hw b1 t61 t63 b4 t67 t69 h53 n0 g g' V56 A55 S E O O' hS hE hO hO' q1 q2 q3 q4) pd_2 rfl rfl rfl (Nat.le_of_eq rfl) (by decide) (by decide) rfl rfl (by decide) (by decide) ?_
    rintro v hh71 ⟨⟨rfl, s1, s2⟩ | ⟨rfl, s1⟩, he71⟩ <;> rw [he71]
    · exact absurd (Int32.toInt_inj.mp (by rw [hN, subs hO' hO q3 (by omega), s1])) hc205
    · skip
      refine WP.castS (st' := [(.int (0 : Int32))]) rfl ?_
      refine WP.iload (pc' := 300) at_298 rfl rfl ?_
      have hc300 : (0 : Int32) = (0 : Int32) := by decide
      refine WP.icmp_ne (pc1 := 307) (pc2 := 303) at_300 (by decide) (by decide) rfl (fun k => absurd hc300 k) (fun _ => ?_)
      refine WP.iconst (pc' := 304) at_303 rfl (z := 1) rfl ?_
      refine WP.goto (pc' := 308) at_304 (by decide) (by decide) ?_
      refine WP.nret (t := .boolean) at_308 rfl (by simp) rfl (by decide) (by decide) rfl
  · intro hc205
    have he : E - S = O' - O := by have := congrArg Int32.toInt hc205; rw [hN, subs hO' hO q3 (by omega)] at this; omega
    refine WP.aload (pc' := 210) at_208 rfl rfl rfl ?_
    refine WP.iload (pc' := 212) at_210 rfl rfl ?_
    refine WP.aload (pc' := 214) at_212 rfl rfl rfl ?_
    refine WP.iload (pc' := 216) at_214 rfl rfl ?_
    refine WP.iload (pc' := 218) at_216 rfl rfl ?_
    refine WP.iconst (pc' := 219) at_218 rfl (z := 0) rfl ?_
    refine WP.callS (argsL := [(.ref b1), (.int t61), (.ref b4), (.int t67), (.int t70), (.int (0 : Int32))]) (rest := []) (wd := 0) (cl' := 2) (sl' := 8) (pc' := 222) at_219 rfl (wd16 hw) (wd17 hw) (wd3 hw) (wd18 hw) (by decide) (m_at hw b1 t61 b4 t67 t70 (0 : Int32) h53 n0 g g' V56 A55 S O (E - S) 0 hS hO hN rfl (by omega) (by omega)) pd_3 rfl rfl rfl (Nat.le_of_eq rfl) (by decide) (by decide) rfl rfl (by decide) (by decide) ?_
    rintro v hh72 ⟨⟨rfl, p0⟩ | ⟨rfl, p0⟩, he72⟩ <;> rw [he72]
    · skip
      refine WP.castS (st' := [(.int (1 : Int32))]) rfl ?_
      have hc222 : ¬ (1 : Int32) = (0 : Int32) := by decide
      refine WP.ifc_eq (pc1 := 280) (pc2 := 225) at_222 (by decide) (by decide) rfl (fun k => absurd k hc222) (fun _ => ?_)
      refine WP.aload (pc' := 227) at_225 rfl rfl rfl ?_
      refine WP.iload (pc' := 229) at_227 rfl rfl ?_
      refine WP.aload (pc' := 231) at_229 rfl rfl rfl ?_
      refine WP.iload (pc' := 233) at_231 rfl rfl ?_
      refine WP.iload (pc' := 235) at_233 rfl rfl ?_
      refine WP.iconst (pc' := 236) at_235 rfl (z := 1) rfl ?_
      refine WP.callS (argsL := [(.ref b1), (.int t61), (.ref b4), (.int t67), (.int t70), (.int (1 : Int32))]) (rest := []) (wd := 0) (cl' := 2) (sl' := 8) (pc' := 239) at_236 rfl (wd16 hw) (wd17 hw) (wd3 hw) (wd18 hw) (by decide) (m_at hw b1 t61 b4 t67 t70 (1 : Int32) h53 n0 g g' V56 A55 S O (E - S) 1 hS hO hN rfl (by omega) (by omega)) pd_3 rfl rfl rfl (Nat.le_of_eq rfl) (by decide) (by decide) rfl rfl (by decide) (by decide) ?_
      rintro v hh73 ⟨⟨rfl, p1⟩ | ⟨rfl, p1⟩, he73⟩ <;> rw [he73]
      · skip
        refine WP.castS (st' := [(.int (1 : Int32))]) rfl ?_
        have hc239 : ¬ (1 : Int32) = (0 : Int32) := by decide
        refine WP.ifc_eq (pc1 := 280) (pc2 := 242) at_239 (by decide) (by decide) rfl (fun k => absurd k hc239) (fun _ => ?_)
        refine WP.aload (pc' := 244) at_242 rfl rfl rfl ?_
        refine WP.iload (pc' := 246) at_244 rfl rfl ?_
        refine WP.aload (pc' := 248) at_246 rfl rfl rfl ?_
        refine WP.iload (pc' := 250) at_248 rfl rfl ?_
        refine WP.iload (pc' := 252) at_250 rfl rfl ?_
        refine WP.iconst (pc' := 253) at_252 rfl (z := 2) rfl ?_
        refine WP.callS (argsL := [(.ref b1), (.int t61), (.ref b4), (.int t67), (.int t70), (.int (2 : Int32))]) (rest := []) (wd := 0) (cl' := 2) (sl' := 8) (pc' := 256) at_253 rfl (wd16 hw) (wd17 hw) (wd3 hw) (wd18 hw) (by decide) (m_at hw b1 t61 b4 t67 t70 (2 : Int32) h53 n0 g g' V56 A55 S O (E - S) 2 hS hO hN rfl (by omega) (by omega)) pd_3 rfl rfl rfl (Nat.le_of_eq rfl) (by decide) (by decide) rfl rfl (by decide) (by decide) ?_
        rintro v hh74 ⟨⟨rfl, p2⟩ | ⟨rfl, p2⟩, he74⟩ <;> rw [he74]
        · skip
          refine WP.castS (st' := [(.int (1 : Int32))]) rfl ?_
          have hc256 : ¬ (1 : Int32) = (0 : Int32) := by decide
          refine WP.ifc_eq (pc1 := 280) (pc2 := 259) at_256 (by decide) (by decide) rfl (fun k => absurd k hc256) (fun _ => ?_)
          refine WP.aload (pc' := 261) at_259 rfl rfl rfl ?_
          refine WP.iload (pc' := 263) at_261 rfl rfl ?_
          refine WP.aload (pc' := 265) at_263 rfl rfl rfl ?_
          refine WP.iload (pc' := 267) at_265 rfl rfl ?_
          refine WP.iload (pc' := 269) at_267 rfl rfl ?_
          refine WP.iconst (pc' := 270) at_269 rfl (z := 3) rfl ?_
          refine WP.callS (argsL := [(.ref b1), (.int t61), (.ref b4), (.int t67), (.int t70), (.int (3 : Int32))]) (rest := []) (wd := 0) (cl' := 2) (sl' := 8) (pc' := 273) at_270 rfl (wd16 hw) (wd17 hw) (wd3 hw) (wd18 hw) (by decide) (m_at hw b1 t61 b4 t67 t70 (3 : Int32) h53 n0 g g' V56 A55 S O (E - S) 3 hS hO hN rfl (by omega) (by omega)) pd_3 rfl rfl rfl (Nat.le_of_eq rfl) (by decide) (by decide) rfl rfl (by decide) (by decide) ?_
          rintro v hh75 ⟨⟨rfl, p3⟩ | ⟨rfl, p3⟩, he75⟩ <;> rw [he75]
          · skip
            refine WP.castS (st' := [(.int (1 : Int32))]) rfl ?_
            have hc273 : ¬ (1 : Int32) = (0 : Int32) := by decide
            refine WP.ifc_eq (pc1 := 280) (pc2 := 276) at_273 (by decide) (by decide) rfl (fun k => absurd k hc273) (fun _ => ?_)
            refine WP.iconst (pc' := 277) at_276 rfl (z := 1) rfl ?_
            refine WP.goto (pc' := 281) at_277 (by decide) (by decide) ?_
            refine WP.istore (pc' := 283) at_281 rfl (Ls' := #[.val (.long x0), .second, .val (.long x1), .second, .val (.int x2), .val (.int x3), .val (.int x4), .val (.ref b1), .val (.ref b4), .val (.int t29), .val (.int t58), .val (.int t59), .val (.int t61), .val (.int t63), .val (.int t64), .val (.int t65), .val (.int t67), .val (.int t69), .val (.int t70), .val (.int (1 : Int32))]) rfl ?_
            refine WP.aload (pc' := 285) at_283 rfl rfl rfl ?_
            refine WP.iload (pc' := 287) at_285 rfl rfl ?_
            refine WP.iload (pc' := 289) at_287 rfl rfl ?_
            refine WP.aload (pc' := 291) at_289 rfl rfl rfl ?_
            refine WP.iload (pc' := 293) at_291 rfl rfl ?_
            refine WP.iload (pc' := 295) at_293 rfl rfl ?_
            refine WP.callS (argsL := [(.ref b1), (.int t61), (.int t63), (.ref b4), (.int t67), (.int t69)]) (rest := []) (wd := 0) (cl' := 2) (sl' := 8) (pc' := 298) at_295 rfl (wd12 hw) (wd13 hw) (wd14 hw) (wd15 hw) (by decide) (m_same hw b1 t61 t63 b4 t67 t69 h53 n0 g g' V56 A55 S E O O' hS hE hO hO' q1 q2 q3 q4) pd_2 rfl rfl rfl (Nat.le_of_eq rfl) (by decide) (by decide) rfl rfl (by decide) (by decide) ?_
            rintro v hh76 ⟨⟨rfl, s1, s2⟩ | ⟨rfl, s1⟩, he76⟩ <;> rw [he76]
            · skip
              refine WP.castS (st' := [(.int (1 : Int32))]) rfl ?_
              refine WP.iload (pc' := 300) at_298 rfl rfl ?_
              have hc300 : (1 : Int32) = (1 : Int32) := by decide
              refine WP.icmp_ne (pc1 := 307) (pc2 := 303) at_300 (by decide) (by decide) rfl (fun k => absurd hc300 k) (fun _ => ?_)
              refine WP.iconst (pc' := 304) at_303 rfl (z := 1) rfl ?_
              refine WP.goto (pc' := 308) at_304 (by decide) (by decide) ?_
              refine WP.nret (t := .boolean) at_308 rfl (by simp) rfl (by decide) (by decide) rfl
            · refine absurd ⟨he, fun i hi => ?_⟩ s1
              have hx : i = 0 ∨ i = 1 ∨ i = 2 ∨ i = 3 := by omega
              rcases hx with rfl | rfl | rfl | rfl
              · exact p0.resolve_left (by omega)
              · exact p1.resolve_left (by omega)
              · exact p2.resolve_left (by omega)
              · exact p3.resolve_left (by omega)
          · skip
            refine WP.castS (st' := [(.int (0 : Int32))]) rfl ?_
            have hc273 : (0 : Int32) = (0 : Int32) := by decide
            refine WP.ifc_eq (pc1 := 280) (pc2 := 276) at_273 (by decide) (by decide) rfl (fun _ => ?_) (fun k => absurd hc273 k)
            refine WP.iconst (pc' := 281) at_280 rfl (z := 0) rfl ?_
            refine WP.istore (pc' := 283) at_281 rfl (Ls' := #[.val (.long x0), .second, .val (.long x1), .second, .val (.int x2), .val (.int x3), .val (.int x4), .val (.ref b1), .val (.ref b4), .val (.int t29), .val (.int t58), .val (.int t59), .val (.int t61), .val (.int t63), .val (.int t64), .val (.int t65), .val (.int t67), .val (.int t69), .val (.int t70), .val (.int (0 : Int32))]) rfl ?_
            refine WP.aload (pc' := 285) at_283 rfl rfl rfl ?_
            refine WP.iload (pc' := 287) at_285 rfl rfl ?_
            refine WP.iload (pc' := 289) at_287 rfl rfl ?_
            refine WP.aload (pc' := 291) at_289 rfl rfl rfl ?_
            refine WP.iload (pc' := 293) at_291 rfl rfl ?_
            refine WP.iload (pc' := 295) at_293 rfl rfl ?_
            refine WP.callS (argsL := [(.ref b1), (.int t61), (.int t63), (.ref b4), (.int t67), (.int t69)]) (rest := []) (wd := 0) (cl' := 2) (sl' := 8) (pc' := 298) at_295 rfl (wd12 hw) (wd13 hw) (wd14 hw) (wd15 hw) (by decide) (m_same hw b1 t61 t63 b4 t67 t69 h53 n0 g g' V56 A55 S E O O' hS hE hO hO' q1 q2 q3 q4) pd_2 rfl rfl rfl (Nat.le_of_eq rfl) (by decide) (by decide) rfl rfl (by decide) (by decide) ?_
            rintro v hh77 ⟨⟨rfl, s1, s2⟩ | ⟨rfl, s1⟩, he77⟩ <;> rw [he77]
            · exact absurd (if z : 3 < E - S then Or.inr (s2 3 z) else Or.inl (by omega)) p3
            · skip
              refine WP.castS (st' := [(.int (0 : Int32))]) rfl ?_
              refine WP.iload (pc' := 300) at_298 rfl rfl ?_
              have hc300 : (0 : Int32) = (0 : Int32) := by decide
              refine WP.icmp_ne (pc1 := 307) (pc2 := 303) at_300 (by decide) (by decide) rfl (fun k => absurd hc300 k) (fun _ => ?_)
              refine WP.iconst (pc' := 304) at_303 rfl (z := 1) rfl ?_
              refine WP.goto (pc' := 308) at_304 (by decide) (by decide) ?_
              refine WP.nret (t := .boolean) at_308 rfl (by simp) rfl (by decide) (by decide) rfl
        · skip
          refine WP.castS (st' := [(.int (0 : Int32))]) rfl ?_
          have hc256 : (0 : Int32) = (0 : Int32) := by decide
          refine WP.ifc_eq (pc1 := 280) (pc2 := 259) at_256 (by decide) (by decide) rfl (fun _ => ?_) (fun k => absurd hc256 k)
          refine WP.iconst (pc' := 281) at_280 rfl (z := 0) rfl ?_
          refine WP.istore (pc' := 283) at_281 rfl (Ls' := #[.val (.long x0), .second, .val (.long x1), .second, .val (.int x2), .val (.int x3), .val (.int x4), .val (.ref b1), .val (.ref b4), .val (.int t29), .val (.int t58), .val (.int t59), .val (.int t61), .val (.int t63), .val (.int t64), .val (.int t65), .val (.int t67), .val (.int t69), .val (.int t70), .val (.int (0 : Int32))]) rfl ?_
          refine WP.aload (pc' := 285) at_283 rfl rfl rfl ?_
          refine WP.iload (pc' := 287) at_285 rfl rfl ?_
          refine WP.iload (pc' := 289) at_287 rfl rfl ?_
          refine WP.aload (pc' := 291) at_289 rfl rfl rfl ?_
          refine WP.iload (pc' := 293) at_291 rfl rfl ?_
          refine WP.iload (pc' := 295) at_293 rfl rfl ?_
          refine WP.callS (argsL := [(.ref b1), (.int t61), (.int t63), (.ref b4), (.int t67), (.int t69)]) (rest := []) (wd := 0) (cl' := 2) (sl' := 8) (pc' := 298) at_295 rfl (wd12 hw) (wd13 hw) (wd14 hw) (wd15 hw) (by decide) (m_same hw b1 t61 t63 b4 t67 t69 h53 n0 g g' V56 A55 S E O O' hS hE hO hO' q1 q2 q3 q4) pd_2 rfl rfl rfl (Nat.le_of_eq rfl) (by decide) (by decide) rfl rfl (by decide) (by decide) ?_
          rintro v hh78 ⟨⟨rfl, s1, s2⟩ | ⟨rfl, s1⟩, he78⟩ <;> rw [he78]
          · exact absurd (if z : 2 < E - S then Or.inr (s2 2 z) else Or.inl (by omega)) p2
          · skip
            refine WP.castS (st' := [(.int (0 : Int32))]) rfl ?_
            refine WP.iload (pc' := 300) at_298 rfl rfl ?_
            have hc300 : (0 : Int32) = (0 : Int32) := by decide
            refine WP.icmp_ne (pc1 := 307) (pc2 := 303) at_300 (by decide) (by decide) rfl (fun k => absurd hc300 k) (fun _ => ?_)
            refine WP.iconst (pc' := 304) at_303 rfl (z := 1) rfl ?_
            refine WP.goto (pc' := 308) at_304 (by decide) (by decide) ?_
            refine WP.nret (t := .boolean) at_308 rfl (by simp) rfl (by decide) (by decide) rfl
      · skip
        refine WP.castS (st' := [(.int (0 : Int32))]) rfl ?_
        have hc239 : (0 : Int32) = (0 : Int32) := by decide
        refine WP.ifc_eq (pc1 := 280) (pc2 := 242) at_239 (by decide) (by decide) rfl (fun _ => ?_) (fun k => absurd hc239 k)
        refine WP.iconst (pc' := 281) at_280 rfl (z := 0) rfl ?_
        refine WP.istore (pc' := 283) at_281 rfl (Ls' := #[.val (.long x0), .second, .val (.long x1), .second, .val (.int x2), .val (.int x3), .val (.int x4), .val (.ref b1), .val (.ref b4), .val (.int t29), .val (.int t58), .val (.int t59), .val (.int t61), .val (.int t63), .val (.int t64), .val (.int t65), .val (.int t67), .val (.int t69), .val (.int t70), .val (.int (0 : Int32))]) rfl ?_
        refine WP.aload (pc' := 285) at_283 rfl rfl rfl ?_
        refine WP.iload (pc' := 287) at_285 rfl rfl ?_
        refine WP.iload (pc' := 289) at_287 rfl rfl ?_
        refine WP.aload (pc' := 291) at_289 rfl rfl rfl ?_
        refine WP.iload (pc' := 293) at_291 rfl rfl ?_
        refine WP.iload (pc' := 295) at_293 rfl rfl ?_
        refine WP.callS (argsL := [(.ref b1), (.int t61), (.int t63), (.ref b4), (.int t67), (.int t69)]) (rest := []) (wd := 0) (cl' := 2) (sl' := 8) (pc' := 298) at_295 rfl (wd12 hw) (wd13 hw) (wd14 hw) (wd15 hw) (by decide) (m_same hw b1 t61 t63 b4 t67 t69 h53 n0 g g' V56 A55 S E O O' hS hE hO hO' q1 q2 q3 q4) pd_2 rfl rfl rfl (Nat.le_of_eq rfl) (by decide) (by decide) rfl rfl (by decide) (by decide) ?_
        rintro v hh79 ⟨⟨rfl, s1, s2⟩ | ⟨rfl, s1⟩, he79⟩ <;> rw [he79]
        · exact absurd (if z : 1 < E - S then Or.inr (s2 1 z) else Or.inl (by omega)) p1
        · skip
          refine WP.castS (st' := [(.int (0 : Int32))]) rfl ?_
          refine WP.iload (pc' := 300) at_298 rfl rfl ?_
          have hc300 : (0 : Int32) = (0 : Int32) := by decide
          refine WP.icmp_ne (pc1 := 307) (pc2 := 303) at_300 (by decide) (by decide) rfl (fun k => absurd hc300 k) (fun _ => ?_)
          refine WP.iconst (pc' := 304) at_303 rfl (z := 1) rfl ?_
          refine WP.goto (pc' := 308) at_304 (by decide) (by decide) ?_
          refine WP.nret (t := .boolean) at_308 rfl (by simp) rfl (by decide) (by decide) rfl
    · skip
      refine WP.castS (st' := [(.int (0 : Int32))]) rfl ?_
      have hc222 : (0 : Int32) = (0 : Int32) := by decide
      refine WP.ifc_eq (pc1 := 280) (pc2 := 225) at_222 (by decide) (by decide) rfl (fun _ => ?_) (fun k => absurd hc222 k)
      refine WP.iconst (pc' := 281) at_280 rfl (z := 0) rfl ?_
      refine WP.istore (pc' := 283) at_281 rfl (Ls' := #[.val (.long x0), .second, .val (.long x1), .second, .val (.int x2), .val (.int x3), .val (.int x4), .val (.ref b1), .val (.ref b4), .val (.int t29), .val (.int t58), .val (.int t59), .val (.int t61), .val (.int t63), .val (.int t64), .val (.int t65), .val (.int t67), .val (.int t69), .val (.int t70), .val (.int (0 : Int32))]) rfl ?_
      refine WP.aload (pc' := 285) at_283 rfl rfl rfl ?_
      refine WP.iload (pc' := 287) at_285 rfl rfl ?_
      refine WP.iload (pc' := 289) at_287 rfl rfl ?_
      refine WP.aload (pc' := 291) at_289 rfl rfl rfl ?_
      refine WP.iload (pc' := 293) at_291 rfl rfl ?_
      refine WP.iload (pc' := 295) at_293 rfl rfl ?_
      refine WP.callS (argsL := [(.ref b1), (.int t61), (.int t63), (.ref b4), (.int t67), (.int t69)]) (rest := []) (wd := 0) (cl' := 2) (sl' := 8) (pc' := 298) at_295 rfl (wd12 hw) (wd13 hw) (wd14 hw) (wd15 hw) (by decide) (m_same hw b1 t61 t63 b4 t67 t69 h53 n0 g g' V56 A55 S E O O' hS hE hO hO' q1 q2 q3 q4) pd_2 rfl rfl rfl (Nat.le_of_eq rfl) (by decide) (by decide) rfl rfl (by decide) (by decide) ?_
      rintro v hh80 ⟨⟨rfl, s1, s2⟩ | ⟨rfl, s1⟩, he80⟩ <;> rw [he80]
      · exact absurd (if z : 0 < E - S then Or.inr (s2 0 z) else Or.inl (by omega)) p0
      · skip
        refine WP.castS (st' := [(.int (0 : Int32))]) rfl ?_
        refine WP.iload (pc' := 300) at_298 rfl rfl ?_
        have hc300 : (0 : Int32) = (0 : Int32) := by decide
        refine WP.icmp_ne (pc1 := 307) (pc2 := 303) at_300 (by decide) (by decide) rfl (fun k => absurd hc300 k) (fun _ => ?_)
        refine WP.iconst (pc' := 304) at_303 rfl (z := 1) rfl ?_
        refine WP.goto (pc' := 308) at_304 (by decide) (by decide) ?_
        refine WP.nret (t := .boolean) at_308 rfl (by simp) rfl (by decide) (by decide) rfl
set_option maxRecDepth 65536 in
set_option maxHeartbeats 40000000 in
theorem comes_1 {Post : Tables → Env → Array Value → State → Outcome → State → Prop} (hpost : ∀ tb e args s v u, (limb_1_1.after args s (.returned v) u = true ∧ limb_1_2.after args s (.returned v) u = true ∧ True) → FrameEnd s (.returned v) u (Jvm.fieldLocs frame_1_writes args s ++ Jvm.arrayLocs frame_1_arrays args s ++ Jvm.staticLocs frame_1_statics s) 16 128 → Post tb e args s (.returned v) u) :
    ArmFor flags0 classFile x code maxLocals ret World_1 tables_1 room_1 Calls_1 rest_1 Pre_1 Post := by
  intro l hfl _ _ p e ha hc hk s m args below hf hA hF happ hP
  obtain ⟨hcalls, hrest, hpre⟩ := hP
  obtain ⟨-, -, -, hnamed, -, -, -, hat⟩ := (Spec.applies_iff hf).mp happ
  obtain ⟨hg, hn⟩ := and_e (Cond.before_iff.mp (show (Jvm.Cond.and given_1 narrow_1).before args s = true from hpre))
  obtain ⟨g1, g2⟩ := and_e hg
  obtain ⟨g3, g4⟩ := and_e g2
  obtain ⟨g5, g6⟩ := and_e g4
  obtain ⟨g7, g8⟩ := and_e g6
  obtain ⟨g9, g10⟩ := and_e g8
  obtain ⟨w0, w1, w2, w3, w4, rfl⟩ : ∃ w0 w1 w2 w3 w4 : Value, args = #[w0, w1, w2, w3, w4] := by
    have hs : args.size = 5 := by simpa [Cond.value, given_1] using g1
    obtain ⟨L⟩ := args
    match L, hs with
    | [w0, w1, w2, w3, w4], _ => exact ⟨w0, w1, w2, w3, w4, rfl⟩
  have hw := fun d (hd : d ∈ tables_1) => atoms_spec (ws := Jvm.Cond.code x code maxLocals ret :: tables_1) hat d (List.mem_cons_of_mem _ hd)
  have hfit : Fit s := fun {y c} hc i hi => by
    obtain ⟨ha, rfl⟩ := Array.getElem?_eq_some_iff.mp hc
    have q := List.all_eq_true.mp ((Array.all_eq_true_iff_forall_mem.mp hF) _ (Array.getElem_mem ha)) i (List.mem_range.mpr hi)
    simpa [Array.getElem?_eq_getElem hi] using q
  obtain ⟨i0, ei0⟩ := isL_v g3
  obtain rfl : w0 = (.long i0) := Option.some.inj ei0
  obtain ⟨i1, ei1⟩ := isL_v g5
  obtain rfl : w1 = (.long i1) := Option.some.inj ei1
  obtain ⟨i2, ei2⟩ := is_v g7
  obtain rfl : w2 = (.int i2) := Option.some.inj ei2
  obtain ⟨i3, ei3⟩ := is_v g9
  obtain rfl : w3 = (.int i3) := Option.some.inj ei3
  obtain ⟨i4, ei4⟩ := is_v g10
  obtain rfl : w4 = (.int i4) := Option.some.inj ei4
  obtain ⟨n, o, h1, h2, h3, _, L, rfl, ⟨rfl, N⟩, hq⟩ := rm0 (Z := s) hw i0 i1 i2 i3 i4 s.heap s.heap.size (Nat.le_refl _) l tables_1 p e ha hc hk s m _ below hf ((Spec.applies_iff_loose hf).mp happ).1 ⟨rfl, State.Warmed39.refl s, rfl⟩ trivial
  refine ⟨n, _, h1, h2, h3, hpost _ _ _ _ _ _ ⟨Cond.after_iff.mpr rfl, Cond.after_iff.mpr (eq_i res_at (Term.int_eval (1)) rfl), trivial⟩ ⟨hq.1, hq.2.1, (hq.2.2.sift fun y hy => Or.inr (N y hy)).mono (by decide) (by decide)⟩⟩
theorem main_1_1 : Claimed_1_1 := comes_1 fun _ _ _ _ _ _ h hF => ⟨h.1, hF⟩
theorem main_1_2 : Claimed_1_2 := comes_1 fun _ _ _ _ _ _ h hF => ⟨h.2.1, hF⟩
end Jvm.Pilot.@@N@@
namespace Jvm.Pilot.@@N@@
open Jvm Jvm.ClassFile Sem Op Lib Jvm.Free Jvm.Stand Jvm.Pilot.@@N@@.Jvm.D
/-! MADE BY PROGRAM (witnessworld.py) out of the Statement's table words and the real class files: 10 classes; the members and pool entries that the words name. The judged class is class 1, her method 1. -/
namespace start1
open Jvm.ClassFile
def u (s : String) : CpInfo := .utf8 (stringToUtf16 s)
/-- a pool by its gaps: so many unusable entries, then the entry; so many at the end -/
def gap : Nat → List CpInfo → List CpInfo
  | 0, r => r
  | n + 1, r => .unusable :: gap n r
def poolList (es : List (Nat × CpInfo)) (last : Nat) : List CpInfo := es.foldr (fun e r => gap e.1 (e.2 :: r)) (gap last [])
def pool (es : List (Nat × CpInfo)) (last : Nat) : Array CpInfo := ⟨poolList es last⟩
def fileOf (pool : Array CpInfo) (this : Nat) (attrs : Array Attribute := #[]) (ms : Array MethodInfo := #[]) (fl : Nat := 33) (sup : Nat := 0) (ifs : Array Nat := #[]) (fds : Array FieldInfo := #[]) : ClassFile where
  minorVersion := 0
  majorVersion := 65
  constantPool := pool
  accessFlags := fl
  thisClass := this
  superClass := sup
  interfaces := ifs
  fields := fds
  methods := ms
  attributes := attrs
def plain (name : String) (sup : Option ClassId) : Class where
  name := name
  kind := .ordinary
  loader := none
  accessFlags := 33
  super := sup
  interfaces := #[]
  cf := none
  fields := #[]
  methods := #[]
  instanceTypes := #[]
  staticTypes := #[]
  resolved := #[]
  callSites := []
  init := .initialized
  statics := none
  mirror := none

def pool0 : Array CpInfo := pool [(5, u "<init>"), (0, u "()V"), (1, .class_ 10), (1, u "java/lang/Object")] 113

def k0m0 : Method := { name := "<init>", desc := "()V", sig := { parameters := [], returnType := none }, accessFlags := 1, code := none }
/-- java/lang/Object -/
def k0 : Class := { plain "java/lang/Object" none with
  accessFlags := 33
  interfaces := #[]
  cf := some (fileOf pool0 8 #[] #[{ accessFlags := 1, nameIndex := 5, descriptorIndex := 6, attributes := #[] }] 33 0 #[] #[])
  fields := #[]
  methods := #[k0m0]
  instanceTypes := #[]
  staticTypes := #[]
  resolved := Array.replicate 124 none
  statics := none }

def pool1 : Array CpInfo := pool [(2, .class_ 4), (1, u "java/lang/Object"), (0, u "<init>"), (0, u "()V"), (0, .methodref 8 9), (0, .class_ 10), (0, .nameAndType 11 12), (0, u "com/example/tallyfold/tallyfold/LineIsSamePinLaw"), (0, u "pick"), (0, u "(IIJ[BI)B"), (0, .methodref 14 15), (0, .class_ 16), (0, .nameAndType 17 18), (0, u "java/lang/Math"), (0, u "min"), (0, u "(II)I"), (0, .methodref 14 20), (0, .nameAndType 21 18), (0, u "max"), (0, .methodref 8 23), (0, .nameAndType 24 25), (0, u "at"), (0, u "([BI[BIII)Z"), (0, .methodref 27 28), (0, .class_ 29), (0, .nameAndType 30 31), (0, u "com/example/tallyfold/tallyfold/Line"), (0, u "isSame"), (0, u "([BII[BII)Z"), (2, u "law"), (0, u "(JJIII)Z")] 5

def k1m0 : Method := { name := "<init>", desc := "()V", sig := { parameters := [], returnType := none }, accessFlags := 1, code := none }
def k1c1 : Code := { maxStack := 8, maxLocals := 20, code := code, exceptionTable := #[], attributes := #[] }
def k1m1 : Method := { name := "law", desc := "(JJIII)Z", sig := { parameters := [.long, .long, .int, .int, .int], returnType := some .boolean }, accessFlags := 9, code := some k1c1 }
def k1c2 : Code := { maxStack := 4, maxLocals := 6, code := method_3_code, exceptionTable := #[], attributes := #[] }
def k1m2 : Method := { name := "pick", desc := "(IIJ[BI)B", sig := { parameters := [.int, .int, .long, (.array .byte), .int], returnType := some .byte }, accessFlags := 10, code := some k1c2 }
def k1c3 : Code := { maxStack := 4, maxLocals := 6, code := method_4_code, exceptionTable := #[], attributes := #[] }
def k1m3 : Method := { name := "at", desc := "([BI[BIII)Z", sig := { parameters := [(.array .byte), .int, (.array .byte), .int, .int, .int], returnType := some .boolean }, accessFlags := 10, code := some k1c3 }
/-- com/example/tallyfold/tallyfold/LineIsSamePinLaw -/
def k1 : Class := { plain "com/example/tallyfold/tallyfold/LineIsSamePinLaw" (some 0) with
  accessFlags := 49
  interfaces := #[]
  cf := some (fileOf pool1 8 #[] #[{ accessFlags := 1, nameIndex := 5, descriptorIndex := 6, attributes := #[] }, { accessFlags := 9, nameIndex := 34, descriptorIndex := 35, attributes := #[] }, { accessFlags := 10, nameIndex := 11, descriptorIndex := 12, attributes := #[] }, { accessFlags := 10, nameIndex := 24, descriptorIndex := 25, attributes := #[] }] 49 2 #[] #[])
  fields := #[]
  methods := #[k1m0, k1m1, k1m2, k1m3]
  instanceTypes := #[]
  staticTypes := #[]
  resolved := Array.replicate 41 none
  statics := none }

def pool2 : Array CpInfo := pool [(1, .class_ 2), (0, u "java/lang/Math"), (1, .class_ 6), (1, u "java/lang/Object"), (0, u "<init>"), (0, u "()V"), (89, .class_ 100), (1, u "java/lang/Math$RandomNumberGeneratorHolder"), (71, u "negativeZeroFloatBits"), (0, u "J"), (2, u "negativeZeroDoubleBits"), (21, u "max"), (2, u "min"), (43, u "$assertionsDisabled"), (0, u "Z"), (88, u "(II)I"), (2, u "twoToTheDoubleScaleDown"), (0, u "D"), (4, u "twoToTheDoubleScaleUp"), (9, u "E"), (3, u "PI"), (2, u "TAU"), (2, u "DEGREES_TO_RADIANS"), (0, u "RADIANS_TO_DEGREES")] 94

def k2m0 : Method := { name := "<init>", desc := "()V", sig := { parameters := [], returnType := none }, accessFlags := 2, code := none }
def k2c1 : Code := { maxStack := 2, maxLocals := 2, code := jdk_29_method_65_code, exceptionTable := #[], attributes := #[] }
def k2m1 : Method := { name := "max", desc := "(II)I", sig := { parameters := [.int, .int], returnType := some .int }, accessFlags := 9, code := some k2c1 }
def k2c2 : Code := { maxStack := 2, maxLocals := 2, code := jdk_29_method_69_code, exceptionTable := #[], attributes := #[] }
def k2m2 : Method := { name := "min", desc := "(II)I", sig := { parameters := [.int, .int], returnType := some .int }, accessFlags := 9, code := some k2c2 }
/-- java/lang/Math -/
def k2 : Class := { plain "java/lang/Math" (some 0) with
  accessFlags := 49
  interfaces := #[]
  cf := some (fileOf pool2 1 #[.nestMembers #[98]] #[{ accessFlags := 2, nameIndex := 7, descriptorIndex := 8, attributes := #[] }, { accessFlags := 9, nameIndex := 198, descriptorIndex := 335, attributes := #[] }, { accessFlags := 9, nameIndex := 201, descriptorIndex := 335, attributes := #[] }] 49 4 #[] #[{ accessFlags := 25, nameIndex := 354, descriptorIndex := 339, attributes := #[] }, { accessFlags := 25, nameIndex := 358, descriptorIndex := 339, attributes := #[] }, { accessFlags := 25, nameIndex := 361, descriptorIndex := 339, attributes := #[] }, { accessFlags := 26, nameIndex := 364, descriptorIndex := 339, attributes := #[] }, { accessFlags := 26, nameIndex := 365, descriptorIndex := 339, attributes := #[] }, { accessFlags := 26, nameIndex := 172, descriptorIndex := 173, attributes := #[] }, { accessFlags := 26, nameIndex := 176, descriptorIndex := 173, attributes := #[] }, { accessFlags := 8, nameIndex := 344, descriptorIndex := 339, attributes := #[] }, { accessFlags := 8, nameIndex := 338, descriptorIndex := 339, attributes := #[] }, { accessFlags := 4120, nameIndex := 245, descriptorIndex := 246, attributes := #[] }])
  fields := #[{ name := "E", type := .double, accessFlags := 25, slot := 0, constantValue := 0 }, { name := "PI", type := .double, accessFlags := 25, slot := 1, constantValue := 0 }, { name := "TAU", type := .double, accessFlags := 25, slot := 2, constantValue := 0 }, { name := "DEGREES_TO_RADIANS", type := .double, accessFlags := 26, slot := 3, constantValue := 0 }, { name := "RADIANS_TO_DEGREES", type := .double, accessFlags := 26, slot := 4, constantValue := 0 }, { name := "negativeZeroFloatBits", type := .long, accessFlags := 26, slot := 5, constantValue := 0 }, { name := "negativeZeroDoubleBits", type := .long, accessFlags := 26, slot := 6, constantValue := 0 }, { name := "twoToTheDoubleScaleUp", type := .double, accessFlags := 8, slot := 7, constantValue := 0 }, { name := "twoToTheDoubleScaleDown", type := .double, accessFlags := 8, slot := 8, constantValue := 0 }, { name := "$assertionsDisabled", type := .boolean, accessFlags := 4120, slot := 9, constantValue := 0 }]
  methods := #[k2m0, k2m1, k2m2]
  instanceTypes := #[]
  staticTypes := #[.double, .double, .double, .double, .double, .long, .long, .double, .double, .boolean]
  resolved := Array.replicate 460 none
  statics := none }

def pool3 : Array CpInfo := pool [(2, .class_ 4), (1, u "java/lang/Object"), (0, u "<init>"), (0, u "()V"), (1, .class_ 10), (1, u "com/example/tallyfold/tallyfold/Line"), (74, u "MOST_DIGITS"), (0, u "I"), (68, .class_ 157), (1, u "com/example/tallyfold/tallyfold/Line$Reader"), (40, u "isSame"), (0, u "([BII[BII)Z"), (4, u "SEPARATOR"), (0, u "Ljava/lang/String;")] 56

def k3m0 : Method := { name := "<init>", desc := "()V", sig := { parameters := [], returnType := none }, accessFlags := 2, code := none }
def k3c1 : Code := { maxStack := 4, maxLocals := 7, code := prog_61_method_23_code, exceptionTable := #[], attributes := #[] }
def k3m1 : Method := { name := "isSame", desc := "([BII[BII)Z", sig := { parameters := [(.array .byte), .int, .int, (.array .byte), .int, .int], returnType := some .boolean }, accessFlags := 8, code := some k3c1 }
/-- com/example/tallyfold/tallyfold/Line -/
def k3 : Class := { plain "com/example/tallyfold/tallyfold/Line" (some 0) with
  accessFlags := 48
  interfaces := #[]
  cf := some (fileOf pool3 8 #[.nestMembers #[155]] #[{ accessFlags := 2, nameIndex := 5, descriptorIndex := 6, attributes := #[] }, { accessFlags := 8, nameIndex := 198, descriptorIndex := 199, attributes := #[] }] 48 2 #[] #[{ accessFlags := 24, nameIndex := 204, descriptorIndex := 205, attributes := #[] }, { accessFlags := 26, nameIndex := 85, descriptorIndex := 86, attributes := #[] }])
  fields := #[{ name := "SEPARATOR", type := (.object "java/lang/String"), accessFlags := 24, slot := 0, constantValue := 0 }, { name := "MOST_DIGITS", type := .int, accessFlags := 26, slot := 1, constantValue := 0 }]
  methods := #[k3m0, k3m1]
  instanceTypes := #[]
  staticTypes := #[(.object "java/lang/String"), .int]
  resolved := Array.replicate 262 none
  statics := none }

def pool4 : Array CpInfo := pool [(1, u "java/lang/Cloneable"), (0, .class_ 1), (0, u "java/lang/Object"), (0, .class_ 3)] 3

/-- java/lang/Cloneable -/
def k4 : Class := { plain "java/lang/Cloneable" (some 0) with
  accessFlags := 1537
  interfaces := #[]
  cf := some (fileOf pool4 2 #[] #[] 1537 4 #[] #[])
  fields := #[]
  methods := #[]
  instanceTypes := #[]
  staticTypes := #[]
  resolved := Array.replicate 8 none
  statics := none }

def pool5 : Array CpInfo := pool [(1, u "java/io/Serializable"), (0, .class_ 1), (0, u "java/lang/Object"), (0, .class_ 3)] 3

/-- java/io/Serializable -/
def k5 : Class := { plain "java/io/Serializable" (some 0) with
  accessFlags := 1537
  interfaces := #[]
  cf := some (fileOf pool5 2 #[] #[] 1537 4 #[] #[])
  fields := #[]
  methods := #[]
  instanceTypes := #[]
  staticTypes := #[]
  resolved := Array.replicate 8 none
  statics := none }

/-- the primitive byte -/
def k6 : Class := { plain "byte" none with kind := .primitive 'B', accessFlags := 0x411 }
/-- [B -/
def k7 : Class := { plain "[B" (some 0) with kind := .array 6 .byte, interfaces := #[4, 5], accessFlags := 1041 }

/-- the primitive int -/
def k8 : Class := { plain "int" none with kind := .primitive 'I', accessFlags := 0x411 }
/-- [I -/
def k9 : Class := { plain "[I" (some 0) with kind := .array 8 .int, interfaces := #[4, 5], accessFlags := 1041 }

def heap : Heap := #[]
def classes : Array Class := #[k0, k1, k2, k3, k4, k5, k6, k7, k8, k9]
def interned : List (Array UInt16 × Addr) := []
def slotsUsed : Nat := 0
def theMethod : MethodId := ⟨1, 1⟩
def args0 : Array Value := #[.long 5, .long 5, .int 5, .int 5, .int 5]
def aboutOver (below : List Frame) : State where
  vm := { classes := classes, interned := interned.toArray }
  heap := heap
  slotsUsed := slotsUsed
  threads := #[{ frames := .invoking theMethod args0 :: below }]
def below0 : List Frame := [.native { method := ⟨0, 0⟩, args := #[] }]
def about1 : State := aboutOver below0
def p0 : Program := .bare "" "" ""
def e0 : Env := launch0.env 0 0 0
theorem w_frames : about1.frames = Frame.invoking theMethod args0 :: below0 := rfl
set_option maxRecDepth 65536 in
theorem w_args : argsFit about1.vm theMethod args0 = true := by decide +kernel
set_option maxRecDepth 65536 in
theorem w_heap : heapFits about1 = true := by decide +kernel
set_option maxRecDepth 65536 in
theorem w_runnable : about1.curStatus? = some .runnable := by decide +kernel
set_option maxRecDepth 65536 in
theorem w_alone : about1.alone = true := by decide +kernel
set_option maxRecDepth 65536 in
theorem w_named : about1.methodNamed? x = some theMethod := by decide +kernel
set_option maxRecDepth 65536 in
theorem w_hears : about1.hears theMethod below0 = true := by decide +kernel
set_option maxRecDepth 65536 in
theorem w_ripe : about1.ripe theMethod args0 below0 = true := by decide +kernel
theorem w_running : about1.status = .running := rfl
set_option maxRecDepth 65536 in
theorem w_room : about1.hasRoom e0.platform room_1 = true :=
  launch0.hasRoom_least _ room_1 (by decide +kernel) (by decide +kernel) (by decide +kernel) (by decide +kernel) (by decide +kernel) (by decide +kernel)
theorem allAtoms_all (ts : List Jvm.Cond) (a : Array Jvm.Value) (st : Jvm.State) : (allAtoms ts).before a st = ts.all (fun c => c.before a st) := by
  induction ts with
  | nil => rfl
  | cons c t ih =>
    show (Jvm.Cond.and c (allAtoms t)).before a st = _
    rw [Jvm.Cond.before_and, ih, List.all_cons]
def words1 : List Jvm.Cond := Jvm.Cond.code x code maxLocals ret :: tables_1
/-- a 'code' word, met by the world's own term for the bytes: nothing is compared byte by byte -/
theorem code_word {y : MethodName} {bytes : ByteArray} {mx : Nat} {rt : Option FieldType} {a : Array Value} {s : State} {m : MethodId} {meth : Method} {c : Code} (h1 : s.methodNamed? y = some m) (h2 : s.vm.method? m = some meth) (h3 : meth.code = some c) (h4 : c.code = bytes)
    (h5 : (c.maxLocals == mx && c.exceptionTable.isEmpty && decide (c.maxStack ≤ mostOperands) && decide (meth.sig.returnType = rt) && !meth.locks && decide (parseMethodDescriptor y.desc = some meth.sig)) = true) : (Jvm.Cond.code y bytes mx rt).before a s = true := by
  simp only [Bool.and_eq_true, beq_iff_eq, Bool.not_eq_true', decide_eq_true_eq] at h5
  obtain ⟨⟨⟨⟨⟨g1, g2⟩, g3⟩, g4⟩, g5⟩, g6⟩ := h5
  simp [Cond.before, Cond.holds, Cond.value, h1, h2, h3, h4, g1, g2, g3, g4, g5, g6]
def isCode : Jvm.Cond → Bool
  | .code _ _ _ _ => true
  | _ => false
theorem all_split {L : List Jvm.Cond} {P : Jvm.Cond → Bool} (h1 : L.all (fun c => isCode c || P c) = true) (h2 : ∀ c ∈ L.filter isCode, P c = true) : L.all P = true := by
  refine List.all_eq_true.mpr fun c hc => ?_
  have h := List.all_eq_true.mp h1 c hc
  rcases Bool.eq_false_or_eq_true (isCode c) with hi | hi
  · exact h2 c (List.mem_filter.mpr ⟨hc, hi⟩)
  · simpa [hi] using h
set_option maxRecDepth 65536 in
theorem w_c0 : (Jvm.Cond.code x code maxLocals ret).before args0 about1 = true := code_word (m := ⟨1, 1⟩) (meth := k1m1) (c := k1c1) (by decide +kernel) rfl rfl rfl (by decide +kernel)
set_option maxRecDepth 65536 in
theorem w_c1 : (Jvm.Cond.code ({ cls := "com/example/tallyfold/tallyfold/LineIsSamePinLaw", name := "pick", desc := "(IIJ[BI)B" } : Jvm.MethodName) method_3_code (6 : Nat) (Option.some Jvm.ClassFile.FieldType.byte)).before args0 about1 = true := code_word (m := ⟨1, 2⟩) (meth := k1m2) (c := k1c2) (by decide +kernel) rfl rfl rfl (by decide +kernel)
set_option maxRecDepth 65536 in
theorem w_c2 : (Jvm.Cond.code ({ cls := "java/lang/Math", name := "min", desc := "(II)I" } : Jvm.MethodName) jdk_29_method_69_code (2 : Nat) (Option.some Jvm.ClassFile.FieldType.int)).before args0 about1 = true := code_word (m := ⟨2, 2⟩) (meth := k2m2) (c := k2c2) (by decide +kernel) rfl rfl rfl (by decide +kernel)
set_option maxRecDepth 65536 in
theorem w_c3 : (Jvm.Cond.code ({ cls := "java/lang/Math", name := "max", desc := "(II)I" } : Jvm.MethodName) jdk_29_method_65_code (2 : Nat) (Option.some Jvm.ClassFile.FieldType.int)).before args0 about1 = true := code_word (m := ⟨2, 1⟩) (meth := k2m1) (c := k2c1) (by decide +kernel) rfl rfl rfl (by decide +kernel)
set_option maxRecDepth 65536 in
theorem w_c4 : (Jvm.Cond.code ({ cls := "com/example/tallyfold/tallyfold/Line", name := "isSame", desc := "([BII[BII)Z" } : Jvm.MethodName) prog_61_method_23_code (7 : Nat) (Option.some Jvm.ClassFile.FieldType.boolean)).before args0 about1 = true := code_word (m := ⟨3, 1⟩) (meth := k3m1) (c := k3c1) (by decide +kernel) rfl rfl rfl (by decide +kernel)
set_option maxRecDepth 65536 in
theorem w_c5 : (Jvm.Cond.code ({ cls := "com/example/tallyfold/tallyfold/LineIsSamePinLaw", name := "at", desc := "([BI[BIII)Z" } : Jvm.MethodName) method_4_code (6 : Nat) (Option.some Jvm.ClassFile.FieldType.boolean)).before args0 about1 = true := code_word (m := ⟨1, 3⟩) (meth := k1m3) (c := k1c3) (by decide +kernel) rfl rfl rfl (by decide +kernel)
def codes1 : List Jvm.Cond := [Jvm.Cond.code x code maxLocals ret, Jvm.Cond.code ({ cls := "com/example/tallyfold/tallyfold/LineIsSamePinLaw", name := "pick", desc := "(IIJ[BI)B" } : Jvm.MethodName) method_3_code (6 : Nat) (Option.some Jvm.ClassFile.FieldType.byte), Jvm.Cond.code ({ cls := "java/lang/Math", name := "min", desc := "(II)I" } : Jvm.MethodName) jdk_29_method_69_code (2 : Nat) (Option.some Jvm.ClassFile.FieldType.int), Jvm.Cond.code ({ cls := "java/lang/Math", name := "max", desc := "(II)I" } : Jvm.MethodName) jdk_29_method_65_code (2 : Nat) (Option.some Jvm.ClassFile.FieldType.int), Jvm.Cond.code ({ cls := "com/example/tallyfold/tallyfold/Line", name := "isSame", desc := "([BII[BII)Z" } : Jvm.MethodName) prog_61_method_23_code (7 : Nat) (Option.some Jvm.ClassFile.FieldType.boolean), Jvm.Cond.code ({ cls := "com/example/tallyfold/tallyfold/LineIsSamePinLaw", name := "at", desc := "([BI[BIII)Z" } : Jvm.MethodName) method_4_code (6 : Nat) (Option.some Jvm.ClassFile.FieldType.boolean)]
set_option maxRecDepth 65536 in
theorem codes_eq : words1.filter isCode = codes1 := rfl
theorem w_codes : ∀ c ∈ words1.filter isCode, c.before args0 about1 = true := by
  rw [codes_eq]
  intro c hc
  simp only [codes1, List.mem_cons, List.not_mem_nil, or_false] at hc
  rcases hc with rfl | rfl | rfl | rfl | rfl | rfl
  · exact w_c0
  · exact w_c1
  · exact w_c2
  · exact w_c3
  · exact w_c4
  · exact w_c5
set_option maxRecDepth 65536 in
theorem w_t1 : words1.all (fun c => isCode c || c.before args0 about1) = true := by decide +kernel
theorem w_tables : (allAtoms (Jvm.Cond.code x code maxLocals ret :: tables_1)).before args0 about1 = true := by
  rw [allAtoms_all]
  show words1.all (fun c => c.before args0 about1) = true
  refine all_split ?_ w_codes
  rw [w_t1]
set_option maxRecDepth 65536 in
theorem w_case : (Jvm.Cond.and given_1 narrow_1).before args0 about1 = true := by decide +kernel
theorem w_applies : (headSpec (Jvm.Cond.code x code maxLocals ret :: tables_1) room_1).applies x e0.platform about1 = true :=
  (Spec.applies_iff w_frames).mpr ⟨w_running, w_runnable, w_alone, w_named, w_hears, w_ripe, w_room, w_tables⟩
theorem atStart : AtStart classFile x code maxLocals ret World_1 tables_1 room_1 Calls_1 rest_1 Pre_1 launch0 p0 e0 about1 theMethod args0 below0 :=
  ⟨lists_1, trivial, launch0.admits_env _ _ _, launch0.least_env, fairChoices_fair.cas, fairChoices_fair.clock, w_frames, w_args, w_heap, w_applies, trivial, trivial, w_case⟩
end start1
theorem witness_1 : WitnessClaimed_1 := ⟨start1.p0, start1.e0, start1.about1, start1.theMethod, start1.args0, start1.below0, start1.atStart⟩
end Jvm.Pilot.@@N@@
